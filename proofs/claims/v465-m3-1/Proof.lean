import JvmDerived
import JvmDerived.Pilot.@@N@@Statement
import JvmDerived.Pilot.@@N@@Code
set_option linter.unusedVariables false
set_option linter.unusedSimpArgs false
namespace Jvm.OwnK
open Sem ClassFile Op Lib Jvm.Free Jvm.Stand Jvm.LawKit Jvm.RoadKit
section Base
variable {p : Program} {l : Launch} {e : Env} {R : Room} {s : State} {m : MethodId} {args : Array Value} {below : List Frame} {meth : Method} {c : Code} {T T' : State} {locs : List Loc} {cells slots : Nat} {Q : Option Value → Heap → List Loc → Prop} {kc ks : Nat} {g g' : JFrame} {Z : State} {a0 : Array Value} {h : Heap}
/-- the walk's goal: from T with g on top the invocation comes to its end, with Q -/
def Go (p : Program) (e : Env) (below : List Frame) (s T : State) (g : JFrame) (Q : Option Value → Heap → List Loc → Prop) (kc ks : Nat) : Prop :=
  ∃ s₂ o, Steps p.tables e below (T.setTop g) s₂ ∧ s₂.status = .running ∧ Ended s₂ below o ∧ ∃ v L, o = .returned v ∧ Q v s₂.heap L ∧ FrameEnd s o s₂ L kc ks
theorem Go.step (st : ∀ target, Steps p.tables e below (T'.setTop g') target → Steps p.tables e below (T.setTop g) target) (k : Go p e below s T' g' Q kc ks) : Go p e below s T g Q kc ks := by
  obtain ⟨s₂, o, h1, r⟩ := k
  exact ⟨s₂, o, st _ h1, r⟩
theorem Go.trans (st : Steps p.tables e below (T.setTop g) (T'.setTop g')) (k : Go p e below s T' g' Q kc ks) : Go p e below s T g Q kc ks := by
  obtain ⟨s₂, o, h1, r⟩ := k
  exact ⟨s₂, o, st.trans h1, r⟩
theorem Go.cast (q : g = g') (k : Go p e below s T g' Q kc ks) : Go p e below s T g Q kc ks := q ▸ k
theorem Go.out (X : Stand p l e R s m args below meth c T locs cells slots) (hlk : meth.locks = false) {v : Option Value} (hv : meth.sig.returnType = none → v = none) (hQ : Q v T.heap locs) (hc : cells ≤ kc) (hs : slots ≤ ks)
    (st : ∀ fs : List Frame, (∀ (f : JFrame) (acts : List Action), f.method = m → f.locked = none → f.entered = [] → (doReturn e (T.setTop f) acts v).1 = T.setFrames fs) → Steps p.tables e below (T.setTop g) (T.setFrames fs)) : Go p e below s T g Q kc ks := by
  obtain ⟨fs, hr, hrun, hended, hW, hsame⟩ := X.leave hv hlk
  exact ⟨_, _, st fs hr, hrun, hended, _, _, rfl, hQ, ⟨_, rfl⟩, hW, hsame.mono hc hs⟩
theorem Go.ret0 (X : Stand p l e R s m args below meth c T locs cells slots) (hx : p.tables.exec = Jvm.exec) (hlk : meth.locks = false) {pc : Nat} {Ls : Array Slot} (hret : meth.sig.returnType = none) (hd : decode c.code pc = .ok (.return_, 1)) (hc : cells ≤ kc) (hs : slots ≤ ks) (hQ : Q none T.heap locs) : Go p e below s T (mkF m pc Ls []) Q kc ks :=
  Go.out X hlk (fun _ => rfl) hQ hc hs fun fs hr => X.returnOut hx hret hd hr
theorem Go.retV (X : Stand p l e R s m args below meth c T locs cells slots) (hx : p.tables.exec = Jvm.exec) (hlk : meth.locks = false) {pc : Nat} {Ls : Array Slot} {w : Value} {t : FieldType} {i : Instr} {rest : List Value} (hret : meth.sig.returnType = some t) (hn : narrow t w = w)
    (hi : (i = .ireturn ∧ (t = .int ∨ t = .boolean ∨ t = .byte ∨ t = .char ∨ t = .short) ∧ ∃ z, w = .int z) ∨ (i = .lreturn ∧ t = .long ∧ ∃ z, w = .long z) ∨ (i = .dreturn ∧ t = .double ∧ ∃ z, w = .double z) ∨ (i = .freturn ∧ t = .float ∧ ∃ z, w = .float z) ∨ (i = .areturn ∧ t.isReference = true ∧ w.isRef = true))
    (hd : decode c.code pc = .ok (i, 1)) (hc : cells ≤ kc) (hs : slots ≤ ks) (hQ : Q (some w) T.heap locs) : Go p e below s T (mkF m pc Ls (w :: rest)) Q kc ks :=
  Go.out X hlk (fun q => by rw [hret] at q; cases q) hQ hc hs fun fs hr => retOut X hx hret hn hi hd hr
theorem Go.retI (X : Stand p l e R s m args below meth c T locs cells slots) (hx : p.tables.exec = Jvm.exec) (hlk : meth.locks = false) {pc : Nat} {Ls : Array Slot} {z : Int32} {rest : List Value} (hret : meth.sig.returnType = some .int)
    (hd : decode c.code pc = .ok (.ireturn, 1)) (hc : cells ≤ kc) (hs : slots ≤ ks) (hQ : Q (some (.int z)) T.heap locs) : Go p e below s T (mkF m pc Ls (.int z :: rest)) Q kc ks :=
  Go.retV X hx hlk hret rfl (Or.inl ⟨rfl, Or.inl rfl, z, rfl⟩) hd hc hs hQ
theorem nar_bool {z : Int32} (h : z = 0 ∨ z = 1) : narrow .boolean (.int z) = .int z := by rcases h with rfl | rfl <;> rfl
theorem Go.retZ (X : Stand p l e R s m args below meth c T locs cells slots) (hx : p.tables.exec = Jvm.exec) (hlk : meth.locks = false) {pc : Nat} {Ls : Array Slot} {z : Int32} {rest : List Value} (hret : meth.sig.returnType = some .boolean) (hz : z = 0 ∨ z = 1)
    (hd : decode c.code pc = .ok (.ireturn, 1)) (hc : cells ≤ kc) (hs : slots ≤ ks) (hQ : Q (some (.int z)) T.heap locs) : Go p e below s T (mkF m pc Ls (.int z :: rest)) Q kc ks :=
  Go.retV X hx hlk hret (nar_bool hz) (Or.inl ⟨rfl, Or.inr (Or.inl rfl), z, rfl⟩) hd hc hs hQ
theorem Go.retJ (X : Stand p l e R s m args below meth c T locs cells slots) (hx : p.tables.exec = Jvm.exec) (hlk : meth.locks = false) {pc : Nat} {Ls : Array Slot} {z : Int64} {rest : List Value} (hret : meth.sig.returnType = some .long)
    (hd : decode c.code pc = .ok (.lreturn, 1)) (hc : cells ≤ kc) (hs : slots ≤ ks) (hQ : Q (some (.long z)) T.heap locs) : Go p e below s T (mkF m pc Ls (.long z :: rest)) Q kc ks :=
  Go.retV X hx hlk hret rfl (Or.inr (Or.inl ⟨rfl, rfl, z, rfl⟩)) hd hc hs hQ
theorem Go.retR (X : Stand p l e R s m args below meth c T locs cells slots) (hx : p.tables.exec = Jvm.exec) (hlk : meth.locks = false) {pc : Nat} {Ls : Array Slot} {w : Value} {t : FieldType} {rest : List Value} (hret : meth.sig.returnType = some t) (ht : t.isReference = true) (hw : w.isRef = true)
    (hd : decode c.code pc = .ok (.areturn, 1)) (hc : cells ≤ kc) (hs : slots ≤ ks) (hQ : Q (some w) T.heap locs) : Go p e below s T (mkF m pc Ls (w :: rest)) Q kc ks :=
  Go.retV X hx hlk hret (by cases t <;> simp [narrow, FieldType.isReference] at ht ⊢) (Or.inr (Or.inr (Or.inr (Or.inr ⟨rfl, ht, hw⟩)))) hd hc hs hQ
/-- a method's contract in this text: from the heap h0, with these arguments, it returns, with Q -/
def Met (l : Launch) (Z : State) (y : MethodName) (bytes : ByteArray) (maxL : Nat) (ret : Option FieldType) (ws : List Jvm.Cond) (rm : Room) (as' : Array Value) (h0 : Heap) (Q : Option Value → Heap → List Loc → Prop) : Prop :=
  MetFree l y (head1 (Jvm.Cond.code y bytes maxL ret :: ws) rm) (fun a U => a = as' ∧ Z.Warmed39 U.vm ∧ U.heap = h0) (fun _ _ _ _ _ => True) (fun _ U o U' => ∃ v L, o = .returned v ∧ Q v U'.heap L ∧ FrameEnd U o U' L rm.cells rm.slots)
theorem Met.of {y : MethodName} {bytes : ByteArray} {maxL : Nat} {ret : Option FieldType} {ws : List Jvm.Cond} {rm : Room} {as' : Array Value} {h0 : Heap} (hpn : plainFor y = true)
    (body : ∀ (p : Program) (e : Env) (s : State) (m : MethodId) (below : List Frame) (meth : Method) (c : Code) (s₁ : State), Stand p l e rm s m as' below meth c s₁ [] 0 0 → p.tables.exec = Jvm.exec → c.code = bytes → c.maxLocals = maxL → Z.Warmed39 s.vm →
      s.vm.findClass y.cls = some m.cls → meth.name = y.name → s₁.heap = h0 → meth.sig.returnType = ret → meth.locks = false → Go p e below s s₁ (entryFrame m as' maxL) Q rm.cells rm.slots) : Met l Z y bytes maxL ret ws rm as' h0 Q := by
  refine MetFree.of_bodySF hpn hisR ?_
  intro p e s m args below meth c s₁ Bd hml0 hP hK
  obtain ⟨rfl, hZ, hh⟩ := hP
  exact body p e s m below meth c s₁ (Stand.of_body Bd) Bd.exec Bd.bytes hml0 hZ (findClass_of_methodNamed Bd.named) (name_of_methodNamed Bd.named Bd.method).1 (by rw [← hh, Bd.state]; rfl) Bd.returns Bd.notSynchronized
theorem Met.mono {y : MethodName} {bytes : ByteArray} {maxL : Nat} {ret : Option FieldType} {ws : List Jvm.Cond} {rm : Room} {as' : Array Value} {h0 : Heap} {Q' : Option Value → Heap → List Loc → Prop} (hM : Met l Z y bytes maxL ret ws rm as' h0 Q) (q : ∀ v h L, Q v h L → Q' v h L) : Met l Z y bytes maxL ret ws rm as' h0 Q' := by
  intro p e ha hc hk s m args below hf happ hP hK
  obtain ⟨n, o, h1, h2, h3, v, L, h4, h5, h6⟩ := hM p e ha hc hk s m args below hf happ hP hK
  exact ⟨n, o, h1, h2, h3, v, L, h4, q _ _ _ h5, h6⟩
/-- the call of a static method, by its contract -/
theorem Go.callS {own : String} {index : Nat} {y : MethodName} {bytes : ByteArray} {maxL : Nat} {ret : Option FieldType} {rm : Room} {argsL rest : List Value} {Q' : Option Value → Heap → List Loc → Prop} {W pc : Nat} {Ls : Array Slot} {st : List Value}
    (X : Stand p l e R s m args below meth c T locs cells slots) (hx : p.tables.exec = Jvm.exec) (hZ : Z.Warmed39 s.vm) (hown : s.vm.findClass own = some m.cls)
    (w1 : (Jvm.Cond.methodLink own index y).before a0 Z = true) (w2 : (Jvm.Cond.static y).before a0 Z = true) (w3 : (Jvm.Cond.initialized y.cls).before a0 Z = true) (w4 : (Jvm.Cond.code y bytes maxL ret).before a0 Z = true)
    (hy : y.cls ≠ "java/lang/invoke/MethodHandle" ∧ y.cls ≠ "java/lang/invoke/VarHandle") (hM : Met l Z y bytes maxL ret [] rm argsL.toArray h Q') (eT : T.heap = h)
    (hlen : ∀ sig, parseMethodDescriptor y.desc = some sig → argsL.length = sig.parameters.length) (hd : decode c.code pc = .ok (.invokestatic index, 3)) (hsize : Ls.size = c.maxLocals) (hst : st = argsL.reverse ++ rest) (hW : (rest.map fun v => v.category).sum ≤ W)
    (hf : rm.frames + 1 ≤ R.frames) (hl : W + (maxL + 11) + rm.locals ≤ R.locals) (hc : cells + rm.cells ≤ R.cells) (hs : slots + rm.slots ≤ R.slots)
    (k : ∀ v T' L, Stand p l e R s m args below meth c T' (locs ++ L) (cells + rm.cells) (slots + rm.slots) → Q' v T'.heap L → Go p e below s T' (mkF m (pc + 3) Ls (v.toList ++ rest)) Q kc ks) : Go p e below s T (mkF m pc Ls st) Q kc ks := by
  obtain ⟨v, vm₁, ⟨T1, L1, k1, n1⟩, -, X1, ⟨Lc, hQ1, l1, y1, z1⟩, st1⟩ := Jvm.LawKit.callS X hx (y := y) hown (mvT hZ w1) (mvT hZ w2) (mvT hZ w3) (mvT hZ w4) hy (backOf (W := W) hM hZ w4 w3 hf hl) (g := mkF m pc Ls st) rfl hsize (argsL := argsL) (rest := rest) hlen hst (by show 2 * 0 + _ ≤ _; omega) hd (fun _ _ => ⟨rfl, eT, hc, hs⟩)
  dsimp only [Pt.U, Pt.locs, Pt.cells, Pt.slots] at X1 l1 y1 z1 st1 hQ1
  subst l1 y1 z1
  exact Go.step st1 (k v T1 Lc X1 hQ1)
/-- the call of a constructor, by its contract -/
theorem Go.callI {own : String} {index : Nat} {y : MethodName} {bytes : ByteArray} {maxL : Nat} {rm : Room} {a : Addr} {argsL rest : List Value} {Q' : Option Value → Heap → List Loc → Prop} {W pc : Nat} {Ls : Array Slot} {st : List Value}
    (X : Stand p l e R s m args below meth c T locs cells slots) (hx : p.tables.exec = Jvm.exec) (hZ : Z.Warmed39 s.vm) (hown : s.vm.findClass own = some m.cls) (hy1 : y.name = "<init>")
    (w1 : (Jvm.Cond.methodLink own index y).before a0 Z = true) (w2 : (Jvm.Cond.instanceMethod y).before a0 Z = true) (w3 : (Jvm.Cond.initialized y.cls).before a0 Z = true) (w4 : (Jvm.Cond.code y bytes maxL none).before a0 Z = true)
    (hy : y.cls ≠ "java/lang/invoke/MethodHandle" ∧ y.cls ≠ "java/lang/invoke/VarHandle") (hM : Met l Z y bytes maxL none [] rm (.ref a :: argsL).toArray h Q') (eT : T.heap = h)
    (hlen : ∀ sig, parseMethodDescriptor y.desc = some sig → argsL.length = sig.parameters.length) (hd : decode c.code pc = .ok (.invokespecial index, 3)) (hsize : Ls.size = c.maxLocals) (hst : st = argsL.reverse ++ .ref a :: rest) (hW : (rest.map fun v => v.category).sum ≤ W)
    (hf : rm.frames + 1 ≤ R.frames) (hl : W + (maxL + 11) + rm.locals ≤ R.locals) (hc : cells + rm.cells ≤ R.cells) (hs : slots + rm.slots ≤ R.slots)
    (k : ∀ v T' L, Stand p l e R s m args below meth c T' (locs ++ L) (cells + rm.cells) (slots + rm.slots) → Q' v T'.heap L → Go p e below s T' (mkF m (pc + 3) Ls (v.toList ++ rest)) Q kc ks) : Go p e below s T (mkF m pc Ls st) Q kc ks := by
  obtain ⟨v, vm₁, ⟨T1, L1, k1, n1⟩, -, X1, ⟨Lc, hQ1, l1, y1, z1⟩, st1⟩ := X.specialBack hx (y := y) hy1 hown (mvT hZ w1) (mvT hZ w2) (mvT hZ w4) hy (backOf (W := W) hM hZ w4 w3 hf hl) (g := mkF m pc Ls st) rfl hsize (Steps.refl _) (a := a) (argsL := argsL) (rest := rest) hlen hst (by show 2 * 0 + _ ≤ _; omega) hd (fun _ _ => ⟨rfl, eT, hc, hs⟩)
  dsimp only [Pt.U, Pt.locs, Pt.cells, Pt.slots] at X1 l1 y1 z1 st1 hQ1
  subst l1 y1 z1
  exact Go.trans st1 (k v T1 Lc X1 hQ1)
/-- the call of an instance method, by its contract -/
theorem Go.callV {own C : String} {index : Nat} {y z : MethodName} {bytes : ByteArray} {maxL : Nat} {ret : Option FieldType} {rm : Room} {a : Addr} {argsL rest : List Value} {Q' : Option Value → Heap → List Loc → Prop} {W pc : Nat} {Ls : Array Slot} {st : List Value}
    (X : Stand p l e R s m args below meth c T locs cells slots) (hx : p.tables.exec = Jvm.exec) (hZ : Z.Warmed39 s.vm) (hown : s.vm.findClass own = some m.cls)
    (w1 : (Jvm.Cond.methodLink own index y).before a0 Z = true) (w2 : (Jvm.Cond.declares y).before a0 Z = true) (w5 : (Jvm.Cond.selects C y z).before a0 Z = true) (w6 : (Jvm.Cond.instanceMethod z).before a0 Z = true) (w3 : (Jvm.Cond.initialized z.cls).before a0 Z = true) (w4 : (Jvm.Cond.code z bytes maxL ret).before a0 Z = true)
    (nf : NotFace s y) (hy : y.cls ≠ "java/lang/invoke/MethodHandle" ∧ y.cls ≠ "java/lang/invoke/VarHandle") (E : Exa Z h a C) (hM : Met l Z z bytes maxL ret [] rm (.ref a :: argsL).toArray h Q') (eT : T.heap = h)
    (hlen : ∀ sig, parseMethodDescriptor y.desc = some sig → argsL.length = sig.parameters.length) (hd : decode c.code pc = .ok (.invokevirtual index, 3)) (hsize : Ls.size = c.maxLocals) (hst : st = argsL.reverse ++ .ref a :: rest) (hW : (rest.map fun v => v.category).sum ≤ W)
    (hf : rm.frames + 1 ≤ R.frames) (hl : W + (maxL + 11) + rm.locals ≤ R.locals) (hc : cells + rm.cells ≤ R.cells) (hs : slots + rm.slots ≤ R.slots)
    (k : ∀ v T' L, Stand p l e R s m args below meth c T' (locs ++ L) (cells + rm.cells) (slots + rm.slots) → Q' v T'.heap L → Go p e below s T' (mkF m (pc + 3) Ls (v.toList ++ rest)) Q kc ks) : Go p e below s T (mkF m pc Ls st) Q kc ks := by
  obtain ⟨cB, kB, q1, q2, q3⟩ := isOf hZ eT E
  obtain ⟨v, vm₁, ⟨T1, L1, k1, n1⟩, -, X1, ⟨Lc, hQ1, l1, y1, z1⟩, st1⟩ := X.virtualBack hx (y := y) (z := z) hown (mvT hZ w1) (mvT hZ w2) nf (mvT hZ w5) (mvT hZ w6) hy (backOf (W := W) hM hZ w4 w3 hf hl) q1 q3 (g := mkF m pc Ls st) rfl hsize (Steps.refl _) (argsL := argsL) (rest := rest) hlen hst (by show 2 * 0 + _ ≤ _; omega) hd (fun _ _ => ⟨rfl, eT, hc, hs⟩)
  dsimp only [Pt.U, Pt.locs, Pt.cells, Pt.slots] at X1 l1 y1 z1 st1 hQ1
  subst l1 y1 z1
  exact Go.trans st1 (k v T1 Lc X1 hQ1)
theorem Go.ldc {own : String} {index pc : Nat} {v : Int32} {Ls : Array Slot} {st : List Value} (X : Stand p l e R s m args below meth c T locs cells slots) (hx : p.tables.exec = Jvm.exec) (hZ : Z.Warmed39 s.vm) (hown : s.vm.findClass own = some m.cls) (w : (Jvm.Cond.constant own index v).before a0 Z = true) (hd : decode c.code pc = .ok (.ldc index, 2))
    (k : Go p e below s T (mkF m (pc + 2) Ls (.int v :: st)) Q kc ks) : Go p e below s T (mkF m pc Ls st) Q kc ks :=
  Go.step (fun _ => X.ldcI hx hown (mvT hZ w) (g := mkF m pc Ls st) rfl hd) k
theorem Go.ldc2 {own : String} {index pc : Nat} {v : Int64} {Ls : Array Slot} {st : List Value} (X : Stand p l e R s m args below meth c T locs cells slots) (hx : p.tables.exec = Jvm.exec) (hZ : Z.Warmed39 s.vm) (hown : s.vm.findClass own = some m.cls) (w : (Jvm.Cond.constantLong own index v).before a0 Z = true) (hd : decode c.code pc = .ok (.ldc2_w index, 3))
    (k : Go p e below s T (mkF m (pc + 3) Ls (.long v :: st)) Q kc ks) : Go p e below s T (mkF m pc Ls st) Q kc ks :=
  Go.step (fun _ => X.ldc2J hx hown (mvT hZ w) (g := mkF m pc Ls st) rfl hd) k
end Base
end Jvm.OwnK
namespace Jvm.OwnK
open Sem ClassFile Op Lib Jvm.Free Jvm.Stand Jvm.LawKit Jvm.RoadKit
section Steps
variable {p : Program} {l : Launch} {e : Env} {R : Room} {s : State} {m : MethodId} {args : Array Value} {below : List Frame} {meth : Method} {c : Code} {T T' : State} {locs : List Loc} {cells slots : Nat} {Q : Option Value → Heap → List Loc → Prop} {kc ks : Nat} {Z : State} {a0 : Array Value} {h : Heap} {pc : Nat} {Ls : Array Slot} {rest : List Value}
theorem Go.iadd {x y : Int32} (X : Stand p l e R s m args below meth c T locs cells slots) (hx : p.tables.exec = Jvm.exec) (hd : decode c.code pc = .ok (.iadd, 1)) (k : Go p e below s T (mkF m (pc + 1) Ls (.int (x + y) :: rest)) Q kc ks) : Go p e below s T (mkF m pc Ls (.int y :: .int x :: rest)) Q kc ks :=
  Go.step (fun _ => XS.iadd X.here hx (g := mkF m pc Ls (.int y :: .int x :: rest)) rfl hd rfl) k
theorem Go.isub {x y : Int32} (X : Stand p l e R s m args below meth c T locs cells slots) (hx : p.tables.exec = Jvm.exec) (hd : decode c.code pc = .ok (.isub, 1)) (k : Go p e below s T (mkF m (pc + 1) Ls (.int (x - y) :: rest)) Q kc ks) : Go p e below s T (mkF m pc Ls (.int y :: .int x :: rest)) Q kc ks :=
  Go.step (fun _ => XS.isub X.here hx (g := mkF m pc Ls (.int y :: .int x :: rest)) rfl hd rfl) k
theorem Go.iand {x y : Int32} (X : Stand p l e R s m args below meth c T locs cells slots) (hx : p.tables.exec = Jvm.exec) (hd : decode c.code pc = .ok (.iand, 1)) (k : Go p e below s T (mkF m (pc + 1) Ls (.int (x &&& y) :: rest)) Q kc ks) : Go p e below s T (mkF m pc Ls (.int y :: .int x :: rest)) Q kc ks :=
  Go.step (fun _ => XS.iand X.here hx (g := mkF m pc Ls (.int y :: .int x :: rest)) rfl hd rfl) k
theorem Go.imul {x y : Int32} (X : Stand p l e R s m args below meth c T locs cells slots) (hx : p.tables.exec = Jvm.exec) (hd : decode c.code pc = .ok (.imul, 1)) (k : Go p e below s T (mkF m (pc + 1) Ls (.int (x * y) :: rest)) Q kc ks) : Go p e below s T (mkF m pc Ls (.int y :: .int x :: rest)) Q kc ks :=
  Go.step (fun _ => XS.imul X.here hx (g := mkF m pc Ls (.int y :: .int x :: rest)) rfl hd rfl) k
theorem Go.ixor {x y : Int32} (X : Stand p l e R s m args below meth c T locs cells slots) (hx : p.tables.exec = Jvm.exec) (hd : decode c.code pc = .ok (.ixor, 1)) (k : Go p e below s T (mkF m (pc + 1) Ls (.int (x ^^^ y) :: rest)) Q kc ks) : Go p e below s T (mkF m pc Ls (.int y :: .int x :: rest)) Q kc ks :=
  Go.step (fun _ => XT.ixor X.here hx (g := mkF m pc Ls (.int y :: .int x :: rest)) rfl hd rfl) k
theorem Go.ior {x y : Int32} (X : Stand p l e R s m args below meth c T locs cells slots) (hx : p.tables.exec = Jvm.exec) (hd : decode c.code pc = .ok (.ior, 1)) (k : Go p e below s T (mkF m (pc + 1) Ls (.int (x ||| y) :: rest)) Q kc ks) : Go p e below s T (mkF m pc Ls (.int y :: .int x :: rest)) Q kc ks :=
  Go.step (fun _ => XT.ior X.here hx (g := mkF m pc Ls (.int y :: .int x :: rest)) rfl hd rfl) k
theorem Go.ishl {x y : Int32} (X : Stand p l e R s m args below meth c T locs cells slots) (hx : p.tables.exec = Jvm.exec) (hd : decode c.code pc = .ok (.ishl, 1)) (k : Go p e below s T (mkF m (pc + 1) Ls (.int (x <<< (y &&& 31)) :: rest)) Q kc ks) : Go p e below s T (mkF m pc Ls (.int y :: .int x :: rest)) Q kc ks :=
  Go.step (fun _ => XT.ishl X.here hx (g := mkF m pc Ls (.int y :: .int x :: rest)) rfl hd rfl) k
theorem Go.ishr {x y : Int32} (X : Stand p l e R s m args below meth c T locs cells slots) (hx : p.tables.exec = Jvm.exec) (hd : decode c.code pc = .ok (.ishr, 1)) (k : Go p e below s T (mkF m (pc + 1) Ls (.int (x >>> (y &&& 31)) :: rest)) Q kc ks) : Go p e below s T (mkF m pc Ls (.int y :: .int x :: rest)) Q kc ks :=
  Go.step (fun _ => XT.ishr X.here hx (g := mkF m pc Ls (.int y :: .int x :: rest)) rfl hd rfl) k
theorem Go.iushr {x y : Int32} (X : Stand p l e R s m args below meth c T locs cells slots) (hx : p.tables.exec = Jvm.exec) (hd : decode c.code pc = .ok (.iushr, 1)) (k : Go p e below s T (mkF m (pc + 1) Ls (.int (XT.ushr x y) :: rest)) Q kc ks) : Go p e below s T (mkF m pc Ls (.int y :: .int x :: rest)) Q kc ks :=
  Go.step (fun _ => XT.iushr X.here hx (g := mkF m pc Ls (.int y :: .int x :: rest)) rfl hd rfl) k
theorem Go.idiv {x y : Int32} (X : Stand p l e R s m args below meth c T locs cells slots) (hx : p.tables.exec = Jvm.exec) (hd : decode c.code pc = .ok (.idiv, 1)) (hy : y ≠ 0) (k : Go p e below s T (mkF m (pc + 1) Ls (.int (x / y) :: rest)) Q kc ks) : Go p e below s T (mkF m pc Ls (.int y :: .int x :: rest)) Q kc ks :=
  Go.step (fun _ => XS.idiv X.here hx (g := mkF m pc Ls (.int y :: .int x :: rest)) rfl hd rfl hy) k
theorem Go.irem {x y : Int32} (X : Stand p l e R s m args below meth c T locs cells slots) (hx : p.tables.exec = Jvm.exec) (hd : decode c.code pc = .ok (.irem, 1)) (hy : y ≠ 0) (k : Go p e below s T (mkF m (pc + 1) Ls (.int (x % y) :: rest)) Q kc ks) : Go p e below s T (mkF m pc Ls (.int y :: .int x :: rest)) Q kc ks :=
  Go.step (fun _ => iremM X hx (g := mkF m pc Ls (.int y :: .int x :: rest)) rfl hd rfl hy) k
theorem Go.ladd {x y : Int64} (X : Stand p l e R s m args below meth c T locs cells slots) (hx : p.tables.exec = Jvm.exec) (hd : decode c.code pc = .ok (.ladd, 1)) (k : Go p e below s T (mkF m (pc + 1) Ls (.long (x + y) :: rest)) Q kc ks) : Go p e below s T (mkF m pc Ls (.long y :: .long x :: rest)) Q kc ks :=
  Go.step (fun _ => XT.ladd X.here hx (g := mkF m pc Ls (.long y :: .long x :: rest)) rfl hd rfl) k
theorem Go.lsub {x y : Int64} (X : Stand p l e R s m args below meth c T locs cells slots) (hx : p.tables.exec = Jvm.exec) (hd : decode c.code pc = .ok (.lsub, 1)) (k : Go p e below s T (mkF m (pc + 1) Ls (.long (x - y) :: rest)) Q kc ks) : Go p e below s T (mkF m pc Ls (.long y :: .long x :: rest)) Q kc ks :=
  Go.step (fun _ => XT.lsub X.here hx (g := mkF m pc Ls (.long y :: .long x :: rest)) rfl hd rfl) k
theorem Go.lmul {x y : Int64} (X : Stand p l e R s m args below meth c T locs cells slots) (hx : p.tables.exec = Jvm.exec) (hd : decode c.code pc = .ok (.lmul, 1)) (k : Go p e below s T (mkF m (pc + 1) Ls (.long (x * y) :: rest)) Q kc ks) : Go p e below s T (mkF m pc Ls (.long y :: .long x :: rest)) Q kc ks :=
  Go.step (fun _ => XT.lmul X.here hx (g := mkF m pc Ls (.long y :: .long x :: rest)) rfl hd rfl) k
theorem Go.land {x y : Int64} (X : Stand p l e R s m args below meth c T locs cells slots) (hx : p.tables.exec = Jvm.exec) (hd : decode c.code pc = .ok (.land, 1)) (k : Go p e below s T (mkF m (pc + 1) Ls (.long (x &&& y) :: rest)) Q kc ks) : Go p e below s T (mkF m pc Ls (.long y :: .long x :: rest)) Q kc ks :=
  Go.step (fun _ => XT.land X.here hx (g := mkF m pc Ls (.long y :: .long x :: rest)) rfl hd rfl) k
theorem Go.lor {x y : Int64} (X : Stand p l e R s m args below meth c T locs cells slots) (hx : p.tables.exec = Jvm.exec) (hd : decode c.code pc = .ok (.lor, 1)) (k : Go p e below s T (mkF m (pc + 1) Ls (.long (x ||| y) :: rest)) Q kc ks) : Go p e below s T (mkF m pc Ls (.long y :: .long x :: rest)) Q kc ks :=
  Go.step (fun _ => XT.lor X.here hx (g := mkF m pc Ls (.long y :: .long x :: rest)) rfl hd rfl) k
theorem Go.lxor {x y : Int64} (X : Stand p l e R s m args below meth c T locs cells slots) (hx : p.tables.exec = Jvm.exec) (hd : decode c.code pc = .ok (.lxor, 1)) (k : Go p e below s T (mkF m (pc + 1) Ls (.long (x ^^^ y) :: rest)) Q kc ks) : Go p e below s T (mkF m pc Ls (.long y :: .long x :: rest)) Q kc ks :=
  Go.step (fun _ => XT.lxor X.here hx (g := mkF m pc Ls (.long y :: .long x :: rest)) rfl hd rfl) k
theorem Go.lcmp {x y : Int64} (X : Stand p l e R s m args below meth c T locs cells slots) (hx : p.tables.exec = Jvm.exec) (hd : decode c.code pc = .ok (.lcmp, 1)) (k : Go p e below s T (mkF m (pc + 1) Ls (.int (XT.cmpL x y) :: rest)) Q kc ks) : Go p e below s T (mkF m pc Ls (.long y :: .long x :: rest)) Q kc ks :=
  Go.step (fun _ => XT.lcmp X.here hx (g := mkF m pc Ls (.long y :: .long x :: rest)) rfl hd rfl) k
theorem Go.lshl {x : Int64} {y : Int32} (X : Stand p l e R s m args below meth c T locs cells slots) (hx : p.tables.exec = Jvm.exec) (hd : decode c.code pc = .ok (.lshl, 1)) (k : Go p e below s T (mkF m (pc + 1) Ls (.long (x <<< (y.toInt64 &&& 63)) :: rest)) Q kc ks) : Go p e below s T (mkF m pc Ls (.int y :: .long x :: rest)) Q kc ks :=
  Go.step (fun _ => XT.lshl X.here hx (g := mkF m pc Ls (.int y :: .long x :: rest)) rfl hd rfl) k
theorem Go.lshr {x : Int64} {y : Int32} (X : Stand p l e R s m args below meth c T locs cells slots) (hx : p.tables.exec = Jvm.exec) (hd : decode c.code pc = .ok (.lshr, 1)) (k : Go p e below s T (mkF m (pc + 1) Ls (.long (x >>> (y.toInt64 &&& 63)) :: rest)) Q kc ks) : Go p e below s T (mkF m pc Ls (.int y :: .long x :: rest)) Q kc ks :=
  Go.step (fun _ => XT.lshr X.here hx (g := mkF m pc Ls (.int y :: .long x :: rest)) rfl hd rfl) k
theorem Go.lushr {x : Int64} {y : Int32} (X : Stand p l e R s m args below meth c T locs cells slots) (hx : p.tables.exec = Jvm.exec) (hd : decode c.code pc = .ok (.lushr, 1)) (k : Go p e below s T (mkF m (pc + 1) Ls (.long (XT.ushrL x y) :: rest)) Q kc ks) : Go p e below s T (mkF m pc Ls (.int y :: .long x :: rest)) Q kc ks :=
  Go.step (fun _ => XT.lushr X.here hx (g := mkF m pc Ls (.int y :: .long x :: rest)) rfl hd rfl) k
theorem Go.i2b {x : Int32} (X : Stand p l e R s m args below meth c T locs cells slots) (hx : p.tables.exec = Jvm.exec) (hd : decode c.code pc = .ok (.i2b, 1)) (k : Go p e below s T (mkF m (pc + 1) Ls (.int (x.toInt8.toInt32) :: rest)) Q kc ks) : Go p e below s T (mkF m pc Ls (.int x :: rest)) Q kc ks :=
  Go.step (fun _ => XT.i2b X.here hx (g := mkF m pc Ls (.int x :: rest)) rfl hd rfl) k
theorem Go.i2c {x : Int32} (X : Stand p l e R s m args below meth c T locs cells slots) (hx : p.tables.exec = Jvm.exec) (hd : decode c.code pc = .ok (.i2c, 1)) (k : Go p e below s T (mkF m (pc + 1) Ls (.int (x.toUInt32.toUInt16.toUInt32.toInt32) :: rest)) Q kc ks) : Go p e below s T (mkF m pc Ls (.int x :: rest)) Q kc ks :=
  Go.step (fun _ => XT.i2c X.here hx (g := mkF m pc Ls (.int x :: rest)) rfl hd rfl) k
theorem Go.i2s {x : Int32} (X : Stand p l e R s m args below meth c T locs cells slots) (hx : p.tables.exec = Jvm.exec) (hd : decode c.code pc = .ok (.i2s, 1)) (k : Go p e below s T (mkF m (pc + 1) Ls (.int (x.toInt16.toInt32) :: rest)) Q kc ks) : Go p e below s T (mkF m pc Ls (.int x :: rest)) Q kc ks :=
  Go.step (fun _ => XT.i2s X.here hx (g := mkF m pc Ls (.int x :: rest)) rfl hd rfl) k
theorem Go.i2l {x : Int32} (X : Stand p l e R s m args below meth c T locs cells slots) (hx : p.tables.exec = Jvm.exec) (hd : decode c.code pc = .ok (.i2l, 1)) (k : Go p e below s T (mkF m (pc + 1) Ls (.long (x.toInt64) :: rest)) Q kc ks) : Go p e below s T (mkF m pc Ls (.int x :: rest)) Q kc ks :=
  Go.step (fun _ => XT.i2l X.here hx (g := mkF m pc Ls (.int x :: rest)) rfl hd rfl) k
theorem Go.ineg {x : Int32} (X : Stand p l e R s m args below meth c T locs cells slots) (hx : p.tables.exec = Jvm.exec) (hd : decode c.code pc = .ok (.ineg, 1)) (k : Go p e below s T (mkF m (pc + 1) Ls (.int (-x) :: rest)) Q kc ks) : Go p e below s T (mkF m pc Ls (.int x :: rest)) Q kc ks :=
  Go.step (fun _ => XS.ineg X.here hx (g := mkF m pc Ls (.int x :: rest)) rfl hd rfl) k
theorem Go.l2i {x : Int64} (X : Stand p l e R s m args below meth c T locs cells slots) (hx : p.tables.exec = Jvm.exec) (hd : decode c.code pc = .ok (.l2i, 1)) (k : Go p e below s T (mkF m (pc + 1) Ls (.int (x.toInt32) :: rest)) Q kc ks) : Go p e below s T (mkF m pc Ls (.long x :: rest)) Q kc ks :=
  Go.step (fun _ => XT.l2i X.here hx (g := mkF m pc Ls (.long x :: rest)) rfl hd rfl) k
theorem Go.iconst {i : Int} (X : Stand p l e R s m args below meth c T locs cells slots) (hx : p.tables.exec = Jvm.exec) (hd : decode c.code pc = .ok (.iconst i, 1)) (k : Go p e below s T (mkF m (pc + 1) Ls (.int (Int32.ofInt i) :: rest)) Q kc ks) : Go p e below s T (mkF m pc Ls rest) Q kc ks :=
  Go.step (fun _ => XS.iconst X.here hx (g := mkF m pc Ls rest) rfl hd) k
theorem Go.bipush {i : Int} (X : Stand p l e R s m args below meth c T locs cells slots) (hx : p.tables.exec = Jvm.exec) (hd : decode c.code pc = .ok (.bipush i, 2)) (k : Go p e below s T (mkF m (pc + 2) Ls (.int (Int8.ofInt i).toInt32 :: rest)) Q kc ks) : Go p e below s T (mkF m pc Ls rest) Q kc ks :=
  Go.step (fun _ => XS.bipush X.here hx (g := mkF m pc Ls rest) rfl hd) k
theorem Go.sipush {i : Int} (X : Stand p l e R s m args below meth c T locs cells slots) (hx : p.tables.exec = Jvm.exec) (hd : decode c.code pc = .ok (.sipush i, 3)) (k : Go p e below s T (mkF m (pc + 3) Ls (.int (Int16.ofInt i).toInt32 :: rest)) Q kc ks) : Go p e below s T (mkF m pc Ls rest) Q kc ks :=
  Go.step (fun _ => XS.sipush X.here hx (g := mkF m pc Ls rest) rfl hd) k
theorem Go.lconst {k0 : Fin 2} (X : Stand p l e R s m args below meth c T locs cells slots) (hx : p.tables.exec = Jvm.exec) (hd : decode c.code pc = .ok (.lconst k0, 1)) (k : Go p e below s T (mkF m (pc + 1) Ls (.long (Int64.ofNat k0) :: rest)) Q kc ks) : Go p e below s T (mkF m pc Ls rest) Q kc ks :=
  Go.step (fun _ => XT.lconst X.here hx (g := mkF m pc Ls rest) rfl hd) k
theorem Go.aconst_null (X : Stand p l e R s m args below meth c T locs cells slots) (hx : p.tables.exec = Jvm.exec) (hd : decode c.code pc = .ok (.aconst_null, 1)) (k : Go p e below s T (mkF m (pc + 1) Ls (.null :: rest)) Q kc ks) : Go p e below s T (mkF m pc Ls rest) Q kc ks :=
  Go.step (fun _ => XS.aconstNull X.here hx (g := mkF m pc Ls rest) rfl hd) k
theorem Go.iload {k0 : Nat} {v : Int32} (X : Stand p l e R s m args below meth c T locs cells slots) (hx : p.tables.exec = Jvm.exec) (hd : decode c.code pc = .ok (.iload k0, 2)) (hl : Ls[k0]? = some (.val (.int v))) (k : Go p e below s T (mkF m (pc + 2) Ls (.int v :: rest)) Q kc ks) : Go p e below s T (mkF m pc Ls rest) Q kc ks :=
  Go.step (fun _ => XS.iload X.here hx (g := mkF m pc Ls rest) rfl hd hl) k
theorem Go.iloadN {k0 : Fin 4} {v : Int32} (X : Stand p l e R s m args below meth c T locs cells slots) (hx : p.tables.exec = Jvm.exec) (hd : decode c.code pc = .ok (.iload_n k0, 1)) (hl : Ls[k0.val]? = some (.val (.int v))) (k : Go p e below s T (mkF m (pc + 1) Ls (.int v :: rest)) Q kc ks) : Go p e below s T (mkF m pc Ls rest) Q kc ks :=
  Go.step (fun _ => XS.iloadN X.here hx (g := mkF m pc Ls rest) rfl hd hl) k
theorem Go.istore {k0 : Nat} {v : Int32} {l' : Array Slot} (X : Stand p l e R s m args below meth c T locs cells slots) (hx : p.tables.exec = Jvm.exec) (hd : decode c.code pc = .ok (.istore k0, 2)) (hl : storeLocals Ls k0 (.int v) = some l') (k : Go p e below s T (mkF m (pc + 2) l' rest) Q kc ks) : Go p e below s T (mkF m pc Ls (.int v :: rest)) Q kc ks :=
  Go.step (fun _ => XS.istore X.here hx (g := mkF m pc Ls (.int v :: rest)) rfl hd rfl hl) k
theorem Go.istoreN {k0 : Fin 4} {v : Int32} {l' : Array Slot} (X : Stand p l e R s m args below meth c T locs cells slots) (hx : p.tables.exec = Jvm.exec) (hd : decode c.code pc = .ok (.istore_n k0, 1)) (hl : storeLocals Ls k0.val (.int v) = some l') (k : Go p e below s T (mkF m (pc + 1) l' rest) Q kc ks) : Go p e below s T (mkF m pc Ls (.int v :: rest)) Q kc ks :=
  Go.step (fun _ => XS.istoreN X.here hx (g := mkF m pc Ls (.int v :: rest)) rfl hd rfl hl) k
theorem Go.lload {k0 : Nat} {v : Int64} (X : Stand p l e R s m args below meth c T locs cells slots) (hx : p.tables.exec = Jvm.exec) (hd : decode c.code pc = .ok (.lload k0, 2)) (hl : Ls[k0]? = some (.val (.long v))) (k : Go p e below s T (mkF m (pc + 2) Ls (.long v :: rest)) Q kc ks) : Go p e below s T (mkF m pc Ls rest) Q kc ks :=
  Go.step (fun _ => XT.lload X.here hx (g := mkF m pc Ls rest) rfl hd hl) k
theorem Go.lloadN {k0 : Fin 4} {v : Int64} (X : Stand p l e R s m args below meth c T locs cells slots) (hx : p.tables.exec = Jvm.exec) (hd : decode c.code pc = .ok (.lload_n k0, 1)) (hl : Ls[k0.val]? = some (.val (.long v))) (k : Go p e below s T (mkF m (pc + 1) Ls (.long v :: rest)) Q kc ks) : Go p e below s T (mkF m pc Ls rest) Q kc ks :=
  Go.step (fun _ => XT.lloadN X.here hx (g := mkF m pc Ls rest) rfl hd hl) k
theorem Go.lstore {k0 : Nat} {v : Int64} {l' : Array Slot} (X : Stand p l e R s m args below meth c T locs cells slots) (hx : p.tables.exec = Jvm.exec) (hd : decode c.code pc = .ok (.lstore k0, 2)) (hl : storeLocals Ls k0 (.long v) = some l') (k : Go p e below s T (mkF m (pc + 2) l' rest) Q kc ks) : Go p e below s T (mkF m pc Ls (.long v :: rest)) Q kc ks :=
  Go.step (fun _ => XT.lstore X.here hx (g := mkF m pc Ls (.long v :: rest)) rfl hd rfl hl) k
theorem Go.lstoreN {k0 : Fin 4} {v : Int64} {l' : Array Slot} (X : Stand p l e R s m args below meth c T locs cells slots) (hx : p.tables.exec = Jvm.exec) (hd : decode c.code pc = .ok (.lstore_n k0, 1)) (hl : storeLocals Ls k0.val (.long v) = some l') (k : Go p e below s T (mkF m (pc + 1) l' rest) Q kc ks) : Go p e below s T (mkF m pc Ls (.long v :: rest)) Q kc ks :=
  Go.step (fun _ => XT.lstoreN X.here hx (g := mkF m pc Ls (.long v :: rest)) rfl hd rfl hl) k
theorem Go.aload {k0 : Nat} {v : Value} (X : Stand p l e R s m args below meth c T locs cells slots) (hx : p.tables.exec = Jvm.exec) (hd : decode c.code pc = .ok (.aload k0, 2)) (hl : Ls[k0]? = some (.val v)) (hv : v.isRef = true) (k : Go p e below s T (mkF m (pc + 2) Ls (v :: rest)) Q kc ks) : Go p e below s T (mkF m pc Ls rest) Q kc ks :=
  Go.step (fun _ => XS.aload X.here hx (g := mkF m pc Ls rest) rfl hd hl hv) k
theorem Go.aloadN {k0 : Fin 4} {v : Value} (X : Stand p l e R s m args below meth c T locs cells slots) (hx : p.tables.exec = Jvm.exec) (hd : decode c.code pc = .ok (.aload_n k0, 1)) (hl : Ls[k0.val]? = some (.val v)) (hv : v.isRef = true) (k : Go p e below s T (mkF m (pc + 1) Ls (v :: rest)) Q kc ks) : Go p e below s T (mkF m pc Ls rest) Q kc ks :=
  Go.step (fun _ => XS.aloadN X.here hx (g := mkF m pc Ls rest) rfl hd hl hv) k
theorem Go.astore {k0 : Nat} {v : Value} {l' : Array Slot} (X : Stand p l e R s m args below meth c T locs cells slots) (hx : p.tables.exec = Jvm.exec) (hd : decode c.code pc = .ok (.astore k0, 2)) (hv : v.isRef = true) (hl : storeLocals Ls k0 v = some l') (k : Go p e below s T (mkF m (pc + 2) l' rest) Q kc ks) : Go p e below s T (mkF m pc Ls (v :: rest)) Q kc ks :=
  Go.step (fun _ => XS.astore X.here hx (g := mkF m pc Ls (v :: rest)) rfl hd rfl hv hl) k
theorem Go.astoreN {k0 : Fin 4} {v : Value} {l' : Array Slot} (X : Stand p l e R s m args below meth c T locs cells slots) (hx : p.tables.exec = Jvm.exec) (hd : decode c.code pc = .ok (.astore_n k0, 1)) (hv : v.isRef = true) (hl : storeLocals Ls k0.val v = some l') (k : Go p e below s T (mkF m (pc + 1) l' rest) Q kc ks) : Go p e below s T (mkF m pc Ls (v :: rest)) Q kc ks :=
  Go.step (fun _ => XS.astoreN X.here hx (g := mkF m pc Ls (v :: rest)) rfl hd rfl hv hl) k
theorem Go.iinc {k0 : Nat} {cst : Int} {x : Int32} {l' : Array Slot} (X : Stand p l e R s m args below meth c T locs cells slots) (hx : p.tables.exec = Jvm.exec) (hd : decode c.code pc = .ok (.iinc k0 cst, 3)) (hl : Ls[k0]? = some (.val (.int x))) (hs : storeLocals Ls k0 (.int (x + Int32.ofInt cst)) = some l') (k : Go p e below s T (mkF m (pc + 3) l' rest) Q kc ks) : Go p e below s T (mkF m pc Ls rest) Q kc ks :=
  Go.step (fun _ => XS.iinc X.here hx (g := mkF m pc Ls rest) rfl hd hl hs) k
theorem Go.dup {v : Value} (X : Stand p l e R s m args below meth c T locs cells slots) (hx : p.tables.exec = Jvm.exec) (hd : decode c.code pc = .ok (.dup, 1)) (hv : v.category = 1) (k : Go p e below s T (mkF m (pc + 1) Ls (v :: v :: rest)) Q kc ks) : Go p e below s T (mkF m pc Ls (v :: rest)) Q kc ks :=
  Go.step (fun _ => XS.dup X.here hx (g := mkF m pc Ls (v :: rest)) rfl hd rfl hv) k
theorem Go.pop {v : Value} (X : Stand p l e R s m args below meth c T locs cells slots) (hx : p.tables.exec = Jvm.exec) (hd : decode c.code pc = .ok (.pop, 1)) (hv : v.category = 1) (k : Go p e below s T (mkF m (pc + 1) Ls rest) Q kc ks) : Go p e below s T (mkF m pc Ls (v :: rest)) Q kc ks :=
  Go.step (fun _ => XT.pop X.here hx (g := mkF m pc Ls (v :: rest)) rfl hd rfl hv) k
theorem Go.dup_x1 {v w : Value} (X : Stand p l e R s m args below meth c T locs cells slots) (hx : p.tables.exec = Jvm.exec) (hd : decode c.code pc = .ok (.dup_x1, 1)) (hv : v.category = 1) (hw' : w.category = 1) (k : Go p e below s T (mkF m (pc + 1) Ls (v :: w :: v :: rest)) Q kc ks) : Go p e below s T (mkF m pc Ls (v :: w :: rest)) Q kc ks :=
  Go.step (fun _ => XT.dupX1 X.here hx (g := mkF m pc Ls (v :: w :: rest)) rfl hd rfl hv hw') k
theorem Go.dup2 {v w : Value} (X : Stand p l e R s m args below meth c T locs cells slots) (hx : p.tables.exec = Jvm.exec) (hd : decode c.code pc = .ok (.dup2, 1)) (hv : v.category = 1) (hw' : w.category = 1) (k : Go p e below s T (mkF m (pc + 1) Ls (v :: w :: v :: w :: rest)) Q kc ks) : Go p e below s T (mkF m pc Ls (v :: w :: rest)) Q kc ks :=
  Go.step (fun _ => XT.dup2 X.here hx (g := mkF m pc Ls (v :: w :: rest)) rfl hd rfl hv hw') k
theorem Go.goto {o : Int} {pc' : Nat} (X : Stand p l e R s m args below meth c T locs cells slots) (hx : p.tables.exec = Jvm.exec) (hd : decode c.code pc = .ok (.goto o, 3)) (ho : 0 ≤ (pc : Int) + o) (hp : ((pc : Int) + o).toNat = pc') (k : Go p e below s T (mkF m pc' Ls rest) Q kc ks) : Go p e below s T (mkF m pc Ls rest) Q kc ks :=
  Go.step (fun _ => XS.goto X.here hx (g := mkF m pc Ls rest) rfl rfl hd ho hp) k
theorem Go.ifYes {cd : ClassFile.Cond} {x : Int32} {o : Int} {pc' : Nat} (X : Stand p l e R s m args below meth c T locs cells slots) (hx : p.tables.exec = Jvm.exec) (hd : decode c.code pc = .ok (.ifCond cd o, 3)) (hc : ifCond.holds cd x = true) (ho : 0 ≤ (pc : Int) + o) (hp : ((pc : Int) + o).toNat = pc') (k : Go p e below s T (mkF m pc' Ls rest) Q kc ks) : Go p e below s T (mkF m pc Ls (.int x :: rest)) Q kc ks :=
  Go.step (fun _ => XS.ifYes X.here hx (g := mkF m pc Ls (.int x :: rest)) rfl rfl hd rfl hc ho hp) k
theorem Go.ifNo {cd : ClassFile.Cond} {x : Int32} {o : Int} (X : Stand p l e R s m args below meth c T locs cells slots) (hx : p.tables.exec = Jvm.exec) (hd : decode c.code pc = .ok (.ifCond cd o, 3)) (hc : ifCond.holds cd x = false) (k : Go p e below s T (mkF m (pc + 3) Ls rest) Q kc ks) : Go p e below s T (mkF m pc Ls (.int x :: rest)) Q kc ks :=
  Go.step (fun _ => XS.ifNo X.here hx (g := mkF m pc Ls (.int x :: rest)) rfl hd rfl hc) k
theorem Go.icmpYes {cd : ClassFile.Cond} {x y : Int32} {o : Int} {pc' : Nat} (X : Stand p l e R s m args below meth c T locs cells slots) (hx : p.tables.exec = Jvm.exec) (hd : decode c.code pc = .ok (.if_icmp cd o, 3)) (hc : if_icmp.holds cd x y = true) (ho : 0 ≤ (pc : Int) + o) (hp : ((pc : Int) + o).toNat = pc') (k : Go p e below s T (mkF m pc' Ls rest) Q kc ks) : Go p e below s T (mkF m pc Ls (.int y :: .int x :: rest)) Q kc ks :=
  Go.step (fun _ => XS.icmpYes X.here hx (g := mkF m pc Ls (.int y :: .int x :: rest)) rfl rfl hd rfl hc ho hp) k
theorem Go.icmpNo {cd : ClassFile.Cond} {x y : Int32} {o : Int} (X : Stand p l e R s m args below meth c T locs cells slots) (hx : p.tables.exec = Jvm.exec) (hd : decode c.code pc = .ok (.if_icmp cd o, 3)) (hc : if_icmp.holds cd x y = false) (k : Go p e below s T (mkF m (pc + 3) Ls rest) Q kc ks) : Go p e below s T (mkF m pc Ls (.int y :: .int x :: rest)) Q kc ks :=
  Go.step (fun _ => XS.icmpNo X.here hx (g := mkF m pc Ls (.int y :: .int x :: rest)) rfl hd rfl hc) k
theorem Go.acmpYes {cd : ClassFile.ACond} {x y : Value} {o : Int} {pc' : Nat} (X : Stand p l e R s m args below meth c T locs cells slots) (hx : p.tables.exec = Jvm.exec) (hd : decode c.code pc = .ok (.if_acmp cd o, 3)) (h1 : x.isRef = true) (h2 : y.isRef = true) (hc : XT.acmp cd x y = true) (ho : 0 ≤ (pc : Int) + o) (hp : ((pc : Int) + o).toNat = pc') (k : Go p e below s T (mkF m pc' Ls rest) Q kc ks) : Go p e below s T (mkF m pc Ls (y :: x :: rest)) Q kc ks :=
  Go.step (fun _ => XT.acmpYes X.here hx (g := mkF m pc Ls (y :: x :: rest)) rfl rfl hd rfl h1 h2 hc ho hp) k
theorem Go.acmpNo {cd : ClassFile.ACond} {x y : Value} {o : Int} (X : Stand p l e R s m args below meth c T locs cells slots) (hx : p.tables.exec = Jvm.exec) (hd : decode c.code pc = .ok (.if_acmp cd o, 3)) (h1 : x.isRef = true) (h2 : y.isRef = true) (hc : XT.acmp cd x y = false) (k : Go p e below s T (mkF m (pc + 3) Ls rest) Q kc ks) : Go p e below s T (mkF m pc Ls (y :: x :: rest)) Q kc ks :=
  Go.step (fun _ => XT.acmpNo X.here hx (g := mkF m pc Ls (y :: x :: rest)) rfl hd rfl h1 h2 hc) k
theorem Go.ifnullYes {a : Addr} {o : Int} {pc' : Nat} (X : Stand p l e R s m args below meth c T locs cells slots) (hx : p.tables.exec = Jvm.exec) (hd : decode c.code pc = .ok (.ifnull o, 3)) (ho : 0 ≤ (pc : Int) + o) (hp : ((pc : Int) + o).toNat = pc') (k : Go p e below s T (mkF m pc' Ls rest) Q kc ks) : Go p e below s T (mkF m pc Ls (.null :: rest)) Q kc ks :=
  Go.step (fun _ => XS.ifnullYes X.here hx (g := mkF m pc Ls (.null :: rest)) rfl rfl hd rfl ho hp) k
theorem Go.ifnullNo {a : Addr} {o : Int} (X : Stand p l e R s m args below meth c T locs cells slots) (hx : p.tables.exec = Jvm.exec) (hd : decode c.code pc = .ok (.ifnull o, 3)) (k : Go p e below s T (mkF m (pc + 3) Ls rest) Q kc ks) : Go p e below s T (mkF m pc Ls (.ref a :: rest)) Q kc ks :=
  Go.step (fun _ => XS.ifnullNo X.here hx (g := mkF m pc Ls (.ref a :: rest)) rfl hd rfl) k
theorem Go.ifnonnullYes {a : Addr} {o : Int} {pc' : Nat} (X : Stand p l e R s m args below meth c T locs cells slots) (hx : p.tables.exec = Jvm.exec) (hd : decode c.code pc = .ok (.ifnonnull o, 3)) (ho : 0 ≤ (pc : Int) + o) (hp : ((pc : Int) + o).toNat = pc') (k : Go p e below s T (mkF m pc' Ls rest) Q kc ks) : Go p e below s T (mkF m pc Ls (.ref a :: rest)) Q kc ks :=
  Go.step (fun _ => XT.ifnonnullYes X.here hx (g := mkF m pc Ls (.ref a :: rest)) rfl rfl hd rfl ho hp) k
theorem Go.ifnonnullNo {a : Addr} {o : Int} (X : Stand p l e R s m args below meth c T locs cells slots) (hx : p.tables.exec = Jvm.exec) (hd : decode c.code pc = .ok (.ifnonnull o, 3)) (k : Go p e below s T (mkF m (pc + 3) Ls rest) Q kc ks) : Go p e below s T (mkF m pc Ls (.null :: rest)) Q kc ks :=
  Go.step (fun _ => XT.ifnonnullNo X.here hx (g := mkF m pc Ls (.null :: rest)) rfl hd rfl) k
end Steps
section Conds
variable {x y : Int32} {u v : Int64} {a b : Addr}
theorem ac_eq_p (h : a = b) : XT.acmp .eq (.ref a) (.ref b) = true := by simp [XT.acmp, h]
theorem ac_eq_n (h : ¬ a = b) : XT.acmp .eq (.ref a) (.ref b) = false := by simp [XT.acmp, h]
theorem ac_ne_p (h : a = b) : XT.acmp .ne (.ref a) (.ref b) = false := by simp [XT.acmp, h]
theorem ac_ne_n (h : ¬ a = b) : XT.acmp .ne (.ref a) (.ref b) = true := by simp [XT.acmp, h]
end Conds
end Jvm.OwnK
namespace Jvm.OwnK
open Sem ClassFile Op Lib Jvm.Free Jvm.Stand Jvm.LawKit Jvm.RoadKit
section Heap
variable {p : Program} {l : Launch} {e : Env} {R : Room} {s : State} {m : MethodId} {args : Array Value} {below : List Frame} {meth : Method} {c : Code} {T T' : State} {locs : List Loc} {cells slots : Nat} {Q : Option Value → Heap → List Loc → Prop} {kc ks : Nat} {Z : State} {a0 : Array Value} {h h' : Heap} {pc : Nat} {Ls : Array Slot} {rest : List Value}
theorem Go.getF {own R0 O n d : String} {index : Nat} {a : Addr} {v : Value} (X : Stand p l e R s m args below meth c T locs cells slots) (hx : p.tables.exec = Jvm.exec) (hZ : Z.Warmed39 s.vm) (hown : s.vm.findClass own = some m.cls) (w : (Jvm.Cond.fieldLink own index R0 n d).before a0 Z = true) (via : Via Z R0 O n d) (eT : T.heap = h) (F : Fld Z h a O n d v) (hd : decode c.code pc = .ok (.getfield index, 3))
    (k : ∀ T', Stand p l e R s m args below meth c T' locs cells slots → T'.heap = h → Go p e below s T' (mkF m (pc + 3) Ls (v :: rest)) Q kc ks) : Go p e below s T (mkF m pc Ls (.ref a :: rest)) Q kc ks := by
  obtain ⟨T', X', e', st⟩ := RoadKit.getF X hx hZ hown (host := "") (Or.inl w) via eT F (g := mkF m pc Ls (.ref a :: rest)) rfl rfl hd
  exact Go.step st (k T' X' e')
theorem Go.getS {own R0 O n d : String} {index : Nat} {v : Value} (X : Stand p l e R s m args below meth c T locs cells slots) (hx : p.tables.exec = Jvm.exec) (hZ : Z.Warmed39 s.vm) (hown : s.vm.findClass own = some m.cls) (w : (Jvm.Cond.fieldLink own index R0 n d).before a0 Z = true) (via : Via Z R0 O n d) (eT : T.heap = h) (F : Sta Z h O n d v) (hd : decode c.code pc = .ok (.getstatic index, 3))
    (k : ∀ T', Stand p l e R s m args below meth c T' locs cells slots → T'.heap = h → Go p e below s T' (mkF m (pc + 3) Ls (v :: rest)) Q kc ks) : Go p e below s T (mkF m pc Ls rest) Q kc ks := by
  obtain ⟨T', X', e', st⟩ := RoadKit.getS X hx hZ hown (host := "") w via eT F (g := mkF m pc Ls rest) rfl hd
  exact Go.step st (k T' X' e')
theorem Go.putF {own R0 O n d C : String} {index kk : Nat} {ty : FieldType} {a : Addr} {v old : Value} (X : Stand p l e R s m args below meth c T locs cells slots) (hx : p.tables.exec = Jvm.exec) (hZ : Z.Warmed39 s.vm) (hown : s.vm.findClass own = some m.cls) (w : (Jvm.Cond.fieldLink own index R0 n d).before a0 Z = true) (via : Via Z R0 O n d) (eT : T.heap = h) (F : Fld Z h a O n d old) (E : Exa Z h a C)
    (L : (Jvm.Cond.lays C O n d).before a0 Z = true ∨ ((Jvm.Cond.laysFinal C O n d).before a0 Z = true ∧ own = O ∧ meth.name = "<init>")) (wi : (Jvm.Cond.instantiable C kk).before a0 Z = true) (hty : parseFieldDescriptor d = some ty) (hn : narrow ty v = v) (hf : fits ty v = true) (hd : decode c.code pc = .ok (.putfield index, 3))
    (k : ∀ T' h', Stand p l e R s m args below meth c T' (locs ++ [⟨a, Jvm.RoadKit.slotOf Z O n d⟩]) cells slots → T'.heap = h' → Wr h h' a (Jvm.RoadKit.slotOf Z O n d) v → Go p e below s T' (mkF m (pc + 3) Ls rest) Q kc ks) : Go p e below s T (mkF m pc Ls (v :: .ref a :: rest)) Q kc ks := by
  obtain ⟨T', h', X', e', W, st⟩ := RoadKit.putF X hx hZ hown (host := "") (Or.inl w) via eT F E L wi hty hn hf (g := mkF m pc Ls (v :: .ref a :: rest)) rfl rfl hd
  exact Go.step st (k T' h' X' e' W)
theorem Go.initO {own : String} {idx : Nat} {W : Nat} {a : Addr} (X : Stand p l e R s m args below meth c T locs cells slots) (hx : p.tables.exec = Jvm.exec) (hZ : Z.Warmed39 s.vm) (hown : s.vm.findClass own = some m.cls) (w1 : (Jvm.Cond.methodLink own idx Lib.objectInit).before a0 Z = true) (w2 : (Jvm.Cond.instanceMethod Lib.objectInit).before a0 Z = true)
    (w3 : (Jvm.Cond.code Lib.objectInit ⟨#[0xb1]⟩ 1 none).before a0 Z = true) (eT : T.heap = h) (hd : decode c.code pc = .ok (.invokespecial idx, 3)) (hsize : Ls.size = c.maxLocals) (hW : (rest.map fun v => v.category).sum ≤ W) (hf : 1 ≤ R.frames) (hl : W + 12 ≤ R.locals)
    (k : ∀ T', Stand p l e R s m args below meth c T' locs cells slots → T'.heap = h → Go p e below s T' (mkF m (pc + 3) Ls rest) Q kc ks) : Go p e below s T (mkF m pc Ls (.ref a :: rest)) Q kc ks := by
  obtain ⟨T', X', e', st⟩ := RoadKit.initO X hx hZ hown w1 w2 w3 eT (g := mkF m pc Ls (.ref a :: rest)) rfl hsize rfl hd hf (W := W) (by show 2 * 0 + _ ≤ _; omega) hl
  exact Go.step st (k T' X' e')
theorem Go.newO {own C : String} {index n : Nat} (X : Stand p l e R s m args below meth c T locs cells slots) (hx : p.tables.exec = Jvm.exec) (hZ : Z.Warmed39 s.vm) (hown : s.vm.findClass own = some m.cls) (w : (Jvm.Cond.classLink own index C).before a0 Z = true) (wi : (Jvm.Cond.instantiable C n).before a0 Z = true) (wz : (Jvm.Cond.initialized C).before a0 Z = true) (eT : T.heap = h)
    (hd : decode c.code pc = .ok (.new index, 3)) (hc : cells + 1 ≤ R.cells) (hl : slots + n ≤ R.slots)
    (k : ∀ T' h' a, a = h.size → Stand p l e R s m args below meth c T' locs (cells + 1) (slots + n) → T'.heap = h' → Ext h h' → Exa Z h' a C → (∀ {O nm d : String} {ty : FieldType}, Laid Z a0 C O nm d → parseFieldDescriptor d = some ty → Fld Z h' a O nm d (defaultValue ty)) →
      Go p e below s T' (mkF m (pc + 3) Ls (.ref a :: rest)) Q kc ks) : Go p e below s T (mkF m pc Ls rest) Q kc ks := by
  obtain ⟨T', h', X', e', E, A, D, -, st⟩ := RoadKit.newO X hx hZ hown w wi wz eT (g := mkF m pc Ls rest) rfl hd hc hl
  exact Go.step st (k T' h' _ rfl X' e' E A D)
theorem Go.ccast {own K : String} {index : Nat} {a : Addr} (X : Stand p l e R s m args below meth c T locs cells slots) (hx : p.tables.exec = Jvm.exec) (hZ : Z.Warmed39 s.vm) (hown : s.vm.findClass own = some m.cls) (w : (Jvm.Cond.classLink own index K).before a0 Z = true) (eT : T.heap = h) (F : Ins Z h a K true) (hd : decode c.code pc = .ok (.checkcast index, 3))
    (k : ∀ T', Stand p l e R s m args below meth c T' locs cells slots → T'.heap = h → Go p e below s T' (mkF m (pc + 3) Ls (.ref a :: rest)) Q kc ks) : Go p e below s T (mkF m pc Ls (.ref a :: rest)) Q kc ks := by
  obtain ⟨T', X', e', st⟩ := castY X hx hZ hown w eT F (g := mkF m pc Ls (.ref a :: rest)) rfl rfl hd
  exact Go.step st (k T' X' e')
theorem Go.instY {own K : String} {index : Nat} {a : Addr} (X : Stand p l e R s m args below meth c T locs cells slots) (hx : p.tables.exec = Jvm.exec) (hZ : Z.Warmed39 s.vm) (hown : s.vm.findClass own = some m.cls) (w : (Jvm.Cond.classLink own index K).before a0 Z = true) (eT : T.heap = h) (F : Ins Z h a K true) (hd : decode c.code pc = .ok (.instanceof index, 3))
    (k : ∀ T', Stand p l e R s m args below meth c T' locs cells slots → T'.heap = h → Go p e below s T' (mkF m (pc + 3) Ls (.int 1 :: rest)) Q kc ks) : Go p e below s T (mkF m pc Ls (.ref a :: rest)) Q kc ks := by
  obtain ⟨T', X', e', st⟩ := RoadKit.instY X hx hZ hown w eT F (g := mkF m pc Ls (.ref a :: rest)) rfl rfl hd
  exact Go.step st (k T' X' e')
theorem Go.instNull {index : Nat} (X : Stand p l e R s m args below meth c T locs cells slots) (hx : p.tables.exec = Jvm.exec) (hd : decode c.code pc = .ok (.instanceof index, 3))
    (k : Go p e below s T (mkF m (pc + 3) Ls (.int 0 :: rest)) Q kc ks) : Go p e below s T (mkF m pc Ls (.null :: rest)) Q kc ks :=
  Go.step (X.instanceofNull hx (g := mkF m pc Ls (.null :: rest)) rfl rfl hd) k
theorem Go.instNo {own K C : String} {index : Nat} {a : Addr} (X : Stand p l e R s m args below meth c T locs cells slots) (hx : p.tables.exec = Jvm.exec) (hZ : Z.Warmed39 s.vm) (hown : s.vm.findClass own = some m.cls) (w : (Jvm.Cond.classLink own index K).before a0 Z = true) (eT : T.heap = h) (E : Exa Z h a C) (F : ∃ c t, Z.vm.findClass C = some c ∧ Z.vm.findClass K = some t ∧ Z.vm.assignable c t = false) (hd : decode c.code pc = .ok (.instanceof index, 3))
    (k : ∀ T', Stand p l e R s m args below meth c T' locs cells slots → T'.heap = h → Go p e below s T' (mkF m (pc + 3) Ls (.int 0 :: rest)) Q kc ks) : Go p e below s T (mkF m pc Ls (.ref a :: rest)) Q kc ks := by
  obtain ⟨T', X', e', st⟩ := RoadKit.instNo X hx hZ hown w eT E F (g := mkF m pc Ls (.ref a :: rest)) rfl rfl hd
  exact Go.step st (k T' X' e')
/-- an array: its class, length n, its component i is f i -/
def Af (Z : State) (h : Heap) (a : Addr) (k : ClassId) (ty : FieldType) (n : Nat) (f : Nat → Value) : Prop := ∃ c : Cell, Arr Z h a c ty ∧ c.cls = k ∧ c.slots.size = n ∧ n < 2 ^ 31 ∧ ∀ i, i < n → c.slots[i]? = some (f i)
def updV (f : Nat → Value) (j : Nat) (v : Value) : Nat → Value := fun i => if i = j then v else f i
variable {a b : Addr} {cid : ClassId} {ty : FieldType} {n : Nat} {f f' : Nat → Value} {ws : List Addr} {sl : Nat} {v : Value}
theorem Af.lt (F : Af Z h a cid ty n f) : a < h.size := by obtain ⟨_, A, -⟩ := F; exact A.lt
theorem Af.ext (E : Ext h h') (F : Af Z h a cid ty n f) : Af Z h' a cid ty n f := by obtain ⟨cl, A, r⟩ := F; exact ⟨cl, A.ext E, r⟩
theorem Af.other (W : Wr h h' b sl v) (F : Af Z h a cid ty n f) (q : a ≠ b) : Af Z h' a cid ty n f := by obtain ⟨cl, A, r⟩ := F; exact ⟨cl, A.other W q, r⟩
theorem Af.keep (F : Af Z h a cid ty n f) (K : Keep h h' ws) (q : a ∉ ws) : Af Z h' a cid ty n f := by obtain ⟨cl, A, r⟩ := F; exact ⟨cl, ⟨K.2.1 a cl A.1 q, A.2⟩, r⟩
theorem Af.congr (F : Af Z h a cid ty n f) (q : ∀ i, i < n → f' i = f i) : Af Z h a cid ty n f' := by obtain ⟨cl, A, r1, r2, r3, r4⟩ := F; exact ⟨cl, A, r1, r2, r3, fun i hi => by rw [q i hi]; exact r4 i hi⟩
theorem Af.set (F : Af Z h a cid ty n f) (W : Wr h h' a sl v) : Af Z h' a cid ty n (updV f sl v) := by
  obtain ⟨cl, A, r1, r2, r3, r4⟩ := F
  refine ⟨_, A.same W, r1, by rw [sz_set]; exact r2, r3, fun i hi => ?_⟩
  by_cases q : i = sl
  · subst q; simp [updV, Cell.setSlot, r2, hi]
  · simp only [updV, if_neg q]; rw [← r4 i hi]; simp [Cell.setSlot, Array.getElem?_setIfInBounds, Ne.symm q]
theorem Af.arv (A : Arr Z h a (newA cid ty z) ty) (q : ¬ z < 0) : Af Z h a cid ty z.toNatClampNeg (fun _ => defaultValue ty) :=
  ⟨_, A, rfl, sz_new _ _ _, by have := (back32 q).2; exact this, fun i hi => by simp [newA, hi]⟩
def updI (g : Nat → Int32) (j : Nat) (v : Int32) : Nat → Int32 := fun i => if i = j then v else g i
def updJ (g : Nat → Int64) (j : Nat) (v : Int64) : Nat → Int64 := fun i => if i = j then v else g i
theorem Af.updI {g : Nat → Int32} {j : Nat} {x : Int32} (A : Af Z h a cid ty n (updV (fun i => Value.int (g i)) j (.int x))) : Af Z h a cid ty n (fun i => Value.int (Jvm.OwnK.updI g j x i)) :=
  A.congr fun i _ => by simp only [Jvm.OwnK.updI, updV]; split <;> rfl
theorem Af.updJ {g : Nat → Int64} {j : Nat} {x : Int64} (A : Af Z h a cid ty n (updV (fun i => Value.long (g i)) j (.long x))) : Af Z h a cid ty n (fun i => Value.long (Jvm.OwnK.updJ g j x i)) :=
  A.congr fun i _ => by simp only [Jvm.OwnK.updJ, updV]; split <;> rfl
theorem in_of {cl : Cell} {j : Int32} (r2 : cl.slots.size = n) (h1 : ¬ j < 0) (h2 : j.toNatClampNeg < n) : ¬ (j < 0 ∨ cl.slots.size ≤ j.toNatClampNeg) := fun q => q.elim h1 fun z => by omega
theorem Go.alen (X : Stand p l e R s m args below meth c T locs cells slots) (hx : p.tables.exec = Jvm.exec) (hZ : Z.Warmed39 s.vm) (eT : T.heap = h) (A : Af Z h a cid ty n f) (hd : decode c.code pc = .ok (.arraylength, 1)) (k : Go p e below s T (mkF m (pc + 1) Ls (.int n.toInt32 :: rest)) Q kc ks) : Go p e below s T (mkF m pc Ls (.ref a :: rest)) Q kc ks := by
  obtain ⟨cl, A1, -, r2, -⟩ := A
  subst r2
  exact Go.step (fun target => X.arraylength hx (by rw [eT]; exact A1.1) (State.isArrayOf_alike hZ.alike A1.2.1) (g := mkF m pc Ls (.ref a :: rest)) rfl rfl hd target) k
theorem Go.iaload {j : Int32} (X : Stand p l e R s m args below meth c T locs cells slots) (hx : p.tables.exec = Jvm.exec) (hZ : Z.Warmed39 s.vm) (eT : T.heap = h) (A : Af Z h a cid .int n f) (h1 : ¬ j < 0) (h2 : j.toNatClampNeg < n) (hd : decode c.code pc = .ok (.iaload, 1)) (k : Go p e below s T (mkF m (pc + 1) Ls (f j.toNatClampNeg :: rest)) Q kc ks) : Go p e below s T (mkF m pc Ls (.int j :: .ref a :: rest)) Q kc ks := by
  obtain ⟨cl, A1, -, r2, -, r4⟩ := A
  exact Go.step (fun target => X.iaload hx (by rw [eT]; exact A1.1) (State.isArrayOf_alike hZ.alike A1.2.1) A1.2.2 (in_of r2 h1 h2) (r4 _ h2) (g := mkF m pc Ls (.int j :: .ref a :: rest)) rfl rfl hd target) k
theorem Go.laload {j : Int32} (X : Stand p l e R s m args below meth c T locs cells slots) (hx : p.tables.exec = Jvm.exec) (hZ : Z.Warmed39 s.vm) (eT : T.heap = h) (A : Af Z h a cid .long n f) (h1 : ¬ j < 0) (h2 : j.toNatClampNeg < n) (hd : decode c.code pc = .ok (.laload, 1)) (k : Go p e below s T (mkF m (pc + 1) Ls (f j.toNatClampNeg :: rest)) Q kc ks) : Go p e below s T (mkF m pc Ls (.int j :: .ref a :: rest)) Q kc ks := by
  obtain ⟨cl, A1, -, r2, -, r4⟩ := A
  exact Go.step (fun target => X.laload hx (by rw [eT]; exact A1.1) (State.isArrayOf_alike hZ.alike A1.2.1) A1.2.2 (in_of r2 h1 h2) (r4 _ h2) (g := mkF m pc Ls (.int j :: .ref a :: rest)) rfl rfl hd target) k
theorem Go.caload {j : Int32} (X : Stand p l e R s m args below meth c T locs cells slots) (hx : p.tables.exec = Jvm.exec) (hZ : Z.Warmed39 s.vm) (eT : T.heap = h) (A : Af Z h a cid .char n f) (h1 : ¬ j < 0) (h2 : j.toNatClampNeg < n) (hd : decode c.code pc = .ok (.caload, 1)) (k : Go p e below s T (mkF m (pc + 1) Ls (f j.toNatClampNeg :: rest)) Q kc ks) : Go p e below s T (mkF m pc Ls (.int j :: .ref a :: rest)) Q kc ks := by
  obtain ⟨cl, A1, -, r2, -, r4⟩ := A
  exact Go.step (fun target => X.caload hx (by rw [eT]; exact A1.1) (State.isArrayOf_alike hZ.alike A1.2.1) A1.2.2 (in_of r2 h1 h2) (r4 _ h2) (g := mkF m pc Ls (.int j :: .ref a :: rest)) rfl rfl hd target) k
theorem Go.aaload {j : Int32} (X : Stand p l e R s m args below meth c T locs cells slots) (hx : p.tables.exec = Jvm.exec) (hZ : Z.Warmed39 s.vm) (eT : T.heap = h) (A : Af Z h a cid ty n f) (hty : ty.isReference = true) (h1 : ¬ j < 0) (h2 : j.toNatClampNeg < n) (hd : decode c.code pc = .ok (.aaload, 1)) (k : Go p e below s T (mkF m (pc + 1) Ls (f j.toNatClampNeg :: rest)) Q kc ks) : Go p e below s T (mkF m pc Ls (.int j :: .ref a :: rest)) Q kc ks := by
  obtain ⟨cl, A1, -, r2, -, r4⟩ := A
  exact Go.step (fun target => X.aaload hx (by rw [eT]; exact A1.1) (State.isArrayOf_alike hZ.alike A1.2.1) hty A1.2.2 (in_of r2 h1 h2) (r4 _ h2) (g := mkF m pc Ls (.int j :: .ref a :: rest)) rfl rfl hd target) k
theorem Go.baloadB {j : Int32} (X : Stand p l e R s m args below meth c T locs cells slots) (hx : p.tables.exec = Jvm.exec) (hZ : Z.Warmed39 s.vm) (eT : T.heap = h) (A : Af Z h a cid .byte n f) (h1 : ¬ j < 0) (h2 : j.toNatClampNeg < n) (hd : decode c.code pc = .ok (.baload, 1)) (k : Go p e below s T (mkF m (pc + 1) Ls (f j.toNatClampNeg :: rest)) Q kc ks) : Go p e below s T (mkF m pc Ls (.int j :: .ref a :: rest)) Q kc ks := by
  obtain ⟨cl, A1, -, r2, -, r4⟩ := A
  exact Go.step (fun target => X.baloadBytes hx (by rw [eT]; exact A1.1) (State.isArrayOf_alike hZ.alike A1.2.1) A1.2.2 (in_of r2 h1 h2) (r4 _ h2) (g := mkF m pc Ls (.int j :: .ref a :: rest)) rfl rfl hd target) k
theorem Go.baloadZ {j : Int32} (X : Stand p l e R s m args below meth c T locs cells slots) (hx : p.tables.exec = Jvm.exec) (hZ : Z.Warmed39 s.vm) (eT : T.heap = h) (A : Af Z h a cid .boolean n f) (h1 : ¬ j < 0) (h2 : j.toNatClampNeg < n) (hd : decode c.code pc = .ok (.baload, 1)) (k : Go p e below s T (mkF m (pc + 1) Ls (f j.toNatClampNeg :: rest)) Q kc ks) : Go p e below s T (mkF m pc Ls (.int j :: .ref a :: rest)) Q kc ks := by
  obtain ⟨cl, A1, -, r2, -, r4⟩ := A
  exact Go.step (fun target => X.baloadBooleans hx (by rw [eT]; exact A1.1) (State.isArrayOf_alike hZ.alike A1.2.1) A1.2.2 (in_of r2 h1 h2) (r4 _ h2) (g := mkF m pc Ls (.int j :: .ref a :: rest)) rfl rfl hd target) k
theorem Go.iastore {j x : Int32} (X : Stand p l e R s m args below meth c T locs cells slots) (hx : p.tables.exec = Jvm.exec) (hZ : Z.Warmed39 s.vm) (eT : T.heap = h) (A : Af Z h a cid .int n f) (h1 : ¬ j < 0) (h2 : j.toNatClampNeg < n) (hd : decode c.code pc = .ok (.iastore, 1))
    (k : ∀ T' h', Stand p l e R s m args below meth c T' (locs ++ [⟨a, j.toNatClampNeg⟩]) cells slots → T'.heap = h' → Wr h h' a j.toNatClampNeg (.int x) → Af Z h' a cid .int n (updV f j.toNatClampNeg (.int x)) → Go p e below s T' (mkF m (pc + 1) Ls rest) Q kc ks) : Go p e below s T (mkF m pc Ls (.int x :: .int j :: .ref a :: rest)) Q kc ks := by
  have A' := A
  obtain ⟨cl, A1, -, r2, -, r4⟩ := A
  obtain ⟨T', h', X', e', W, st⟩ := stI X hx hZ eT A1 (in_of r2 h1 h2) (g := mkF m pc Ls (.int x :: .int j :: .ref a :: rest)) rfl rfl hd
  exact Go.step st (k T' h' X' e' W (A'.set W))
theorem Go.lastore {j : Int32} {x : Int64} (X : Stand p l e R s m args below meth c T locs cells slots) (hx : p.tables.exec = Jvm.exec) (hZ : Z.Warmed39 s.vm) (eT : T.heap = h) (A : Af Z h a cid .long n f) (h1 : ¬ j < 0) (h2 : j.toNatClampNeg < n) (hd : decode c.code pc = .ok (.lastore, 1))
    (k : ∀ T' h', Stand p l e R s m args below meth c T' (locs ++ [⟨a, j.toNatClampNeg⟩]) cells slots → T'.heap = h' → Wr h h' a j.toNatClampNeg (.long x) → Af Z h' a cid .long n (updV f j.toNatClampNeg (.long x)) → Go p e below s T' (mkF m (pc + 1) Ls rest) Q kc ks) : Go p e below s T (mkF m pc Ls (.long x :: .int j :: .ref a :: rest)) Q kc ks := by
  have A' := A
  obtain ⟨cl, A1, -, r2, -, r4⟩ := A
  obtain ⟨T', h', X', e', W, st⟩ := stJ X hx hZ eT A1 (in_of r2 h1 h2) (g := mkF m pc Ls (.long x :: .int j :: .ref a :: rest)) rfl rfl hd
  exact Go.step st (k T' h' X' e' W (A'.set W))
theorem Go.bastoreB {j x : Int32} (X : Stand p l e R s m args below meth c T locs cells slots) (hx : p.tables.exec = Jvm.exec) (hZ : Z.Warmed39 s.vm) (eT : T.heap = h) (A : Af Z h a cid .byte n f) (h1 : ¬ j < 0) (h2 : j.toNatClampNeg < n) (hd : decode c.code pc = .ok (.bastore, 1))
    (k : ∀ T' h', Stand p l e R s m args below meth c T' (locs ++ [⟨a, j.toNatClampNeg⟩]) cells slots → T'.heap = h' → Wr h h' a j.toNatClampNeg (.int x.toInt8.toInt32) → Af Z h' a cid .byte n (updV f j.toNatClampNeg (.int x.toInt8.toInt32)) → Go p e below s T' (mkF m (pc + 1) Ls rest) Q kc ks) : Go p e below s T (mkF m pc Ls (.int x :: .int j :: .ref a :: rest)) Q kc ks := by
  have A' := A
  obtain ⟨cl, A1, -, r2, -, r4⟩ := A
  obtain ⟨T', h', X', e', W, st⟩ := stB X hx hZ eT A1 (in_of r2 h1 h2) (g := mkF m pc Ls (.int x :: .int j :: .ref a :: rest)) rfl rfl hd
  exact Go.step st (k T' h' X' e' W (A'.set W))
theorem Go.bastoreZ {j x : Int32} (X : Stand p l e R s m args below meth c T locs cells slots) (hx : p.tables.exec = Jvm.exec) (hZ : Z.Warmed39 s.vm) (eT : T.heap = h) (A : Af Z h a cid .boolean n f) (h1 : ¬ j < 0) (h2 : j.toNatClampNeg < n) (hd : decode c.code pc = .ok (.bastore, 1))
    (k : ∀ T' h', Stand p l e R s m args below meth c T' (locs ++ [⟨a, j.toNatClampNeg⟩]) cells slots → T'.heap = h' → Wr h h' a j.toNatClampNeg (.int (nar .boolean x)) → Af Z h' a cid .boolean n (updV f j.toNatClampNeg (.int (nar .boolean x))) → Go p e below s T' (mkF m (pc + 1) Ls rest) Q kc ks) : Go p e below s T (mkF m pc Ls (.int x :: .int j :: .ref a :: rest)) Q kc ks := by
  have A' := A
  obtain ⟨cl, A1, -, r2, -, r4⟩ := A
  obtain ⟨T', h', X', e', W, st⟩ := stZ X hx hZ eT A1 (in_of r2 h1 h2) (g := mkF m pc Ls (.int x :: .int j :: .ref a :: rest)) rfl rfl hd
  exact Go.step st (k T' h' X' e' W (A'.set W))
theorem Go.castore {j x : Int32} (X : Stand p l e R s m args below meth c T locs cells slots) (hx : p.tables.exec = Jvm.exec) (hZ : Z.Warmed39 s.vm) (eT : T.heap = h) (A : Af Z h a cid .char n f) (h1 : ¬ j < 0) (h2 : j.toNatClampNeg < n) (hd : decode c.code pc = .ok (.castore, 1))
    (k : ∀ T' h', Stand p l e R s m args below meth c T' (locs ++ [⟨a, j.toNatClampNeg⟩]) cells slots → T'.heap = h' → Wr h h' a j.toNatClampNeg (.int (nar .char x)) → Af Z h' a cid .char n (updV f j.toNatClampNeg (.int (nar .char x))) → Go p e below s T' (mkF m (pc + 1) Ls rest) Q kc ks) : Go p e below s T (mkF m pc Ls (.int x :: .int j :: .ref a :: rest)) Q kc ks := by
  have A' := A
  obtain ⟨cl, A1, -, r2, -, r4⟩ := A
  obtain ⟨T', h', X', e', W, st⟩ := stC X hx hZ eT A1 (in_of r2 h1 h2) (g := mkF m pc Ls (.int x :: .int j :: .ref a :: rest)) rfl rfl hd
  exact Go.step st (k T' h' X' e' W (A'.set W))
theorem Go.aastore {j : Int32} {C : String} {y : Addr} (X : Stand p l e R s m args below meth c T locs cells slots) (hx : p.tables.exec = Jvm.exec) (hZ : Z.Warmed39 s.vm) (eT : T.heap = h) (A : Af Z h a cid ty n f) (hty : ty.isReference = true) (O : Ovr Z cid C) (I : Ins Z h y C true) (h1 : ¬ j < 0) (h2 : j.toNatClampNeg < n) (hd : decode c.code pc = .ok (.aastore, 1))
    (k : ∀ T' h', Stand p l e R s m args below meth c T' (locs ++ [⟨a, j.toNatClampNeg⟩]) cells slots → T'.heap = h' → Wr h h' a j.toNatClampNeg (.ref y) → Af Z h' a cid ty n (updV f j.toNatClampNeg (.ref y)) → Go p e below s T' (mkF m (pc + 1) Ls rest) Q kc ks) : Go p e below s T (mkF m pc Ls (.ref y :: .int j :: .ref a :: rest)) Q kc ks := by
  have A' := A
  obtain ⟨cl, A1, r1, r2, -, r4⟩ := A
  obtain ⟨T', h', X', e', W, st⟩ := stR X hx hZ eT A1 (in_of r2 h1 h2) hty (Sto.ofV A1 r1 O I) (g := mkF m pc Ls (.ref y :: .int j :: .ref a :: rest)) rfl rfl hd
  exact Go.step st (k T' h' X' e' W (A'.set W))
theorem Go.newarray {aty : ArrayType} {z : Int32} {cap : Nat} (X : Stand p l e R s m args below meth c T locs cells slots) (hx : p.tables.exec = Jvm.exec) (hZ : Z.Warmed39 s.vm) (w : (Jvm.Cond.arrayClass (newarray.typeOf aty)).before a0 Z = true) (eT : T.heap = h) (hd : decode c.code pc = .ok (.newarray aty, 2)) (hn : ¬ z < 0) (hcap : z.toNatClampNeg ≤ cap) (hb : cap * 8 ≤ 536870912) (hc : cells + 1 ≤ R.cells) (hl : slots + cap ≤ R.slots)
    (k : ∀ T' h' a cA, a = h.size → Stand p l e R s m args below meth c T' locs (cells + 1) (slots + cap) → T'.heap = h' → Ext h h' → Af Z h' a cA (newarray.typeOf aty) z.toNatClampNeg (fun _ => defaultValue (newarray.typeOf aty)) → Go p e below s T' (mkF m (pc + 2) Ls (.ref a :: rest)) Q kc ks) : Go p e below s T (mkF m pc Ls (.int z :: rest)) Q kc ks := by
  obtain ⟨T', h', cA, X', e', E, A, st⟩ := newP X hx hZ w eT (g := mkF m pc Ls (.int z :: rest)) rfl hd rfl hn hcap hb hc hl
  exact Go.step st (k T' h' _ cA rfl X' e' E (Af.arv A hn))
theorem Go.anewarray {own C : String} {index : Nat} {z : Int32} {cap : Nat} (X : Stand p l e R s m args below meth c T locs cells slots) (hx : p.tables.exec = Jvm.exec) (hZ : Z.Warmed39 s.vm) (hown : s.vm.findClass own = some m.cls) (w1 : (Jvm.Cond.classLink own index C).before a0 Z = true) (w2 : (Jvm.Cond.arrayOver (.object C)).before a0 Z = true) (eT : T.heap = h) (hd : decode c.code pc = .ok (.anewarray index, 3)) (hn : ¬ z < 0) (hcap : z.toNatClampNeg ≤ cap) (hb : cap * 8 ≤ 536870912) (hc : cells + 1 ≤ R.cells) (hl : slots + cap ≤ R.slots)
    (k : ∀ T' h' a cA, a = h.size → Stand p l e R s m args below meth c T' locs (cells + 1) (slots + cap) → T'.heap = h' → Ext h h' → Af Z h' a cA (.object C) z.toNatClampNeg (fun _ => .null) → Ovr Z cA C → Go p e below s T' (mkF m (pc + 3) Ls (.ref a :: rest)) Q kc ks) : Go p e below s T (mkF m pc Ls (.int z :: rest)) Q kc ks := by
  obtain ⟨T', h', cA, X', e', E, A, O, st⟩ := newR X hx hZ hown w1 w2 eT (g := mkF m pc Ls (.int z :: rest)) rfl hd rfl hn hcap hb hc hl
  exact Go.step st (k T' h' _ cA rfl X' e' E (Af.arv A hn) O)
theorem Go.clone {own ad : String} {index W cap : Nat} (X : Stand p l e R s m args below meth c T locs cells slots) (hx : p.tables.exec = Jvm.exec) (hZ : Z.Warmed39 s.vm) (hown : s.vm.findClass own = some m.cls)
    (w1 : (Jvm.Cond.methodLink own index ⟨ad, "clone", "()Ljava/lang/Object;"⟩).before a0 Z = true) (w2 : (Jvm.Cond.sameMethod ad "java/lang/Object" "clone" "()Ljava/lang/Object;").before a0 Z = true) (w3 : (Jvm.Cond.native ⟨"java/lang/Object", "clone", "()Ljava/lang/Object;"⟩).before a0 Z = true)
    (w4 : (Jvm.Cond.instanceMethod ⟨"java/lang/Object", "clone", "()Ljava/lang/Object;"⟩).before a0 Z = true) (w5 : (Jvm.Cond.selects ad ⟨ad, "clone", "()Ljava/lang/Object;"⟩ ⟨"java/lang/Object", "clone", "()Ljava/lang/Object;"⟩).before a0 Z = true) (w6 : (Jvm.Cond.castable ad "java/lang/Cloneable").before a0 Z = true)
    (eT : T.heap = h) (A : Af Z h a cid ty n f) (E : Exa Z h a ad) (F : ∀ cl : Cell, h[a]? = some cl → FitC Z cl) (hd : decode c.code pc = .ok (.invokevirtual index, 3)) (hsize : Ls.size = c.maxLocals) (hW : (rest.map fun v => v.category).sum ≤ W) (hf : 1 ≤ R.frames) (hl : W + 14 ≤ R.locals) (hcap : n ≤ cap) (hc : cells + 1 ≤ R.cells) (hsl : slots + cap ≤ R.slots)
    (k : ∀ T' h' b, b = h.size → Stand p l e R s m args below meth c T' locs (cells + 1) (slots + cap) → T'.heap = h' → Ext h h' → Af Z h' b cid ty n f → Exa Z h' b ad → Go p e below s T' (mkF m (pc + 3) Ls (.ref b :: rest)) Q kc ks) : Go p e below s T (mkF m pc Ls (.ref a :: rest)) Q kc ks := by
  obtain ⟨cl, A1, r1, r2, r3, r4⟩ := A
  obtain ⟨T', h', X', e', Ex, A2, E2, st⟩ := cloneA X hx hZ hown w1 w2 w3 w4 w5 w6 eT A1 E (F cl A1.1) (g := mkF m pc Ls (.ref a :: rest)) rfl hsize rfl hd hf (W := W) (cap := cap) (by show 2 * 0 + _ ≤ _; omega) hl (by rw [r2]; exact hcap) hc hsl
  exact Go.step st (k T' h' _ rfl X' e' Ex ⟨_, A2, r1, r2, r3, r4⟩ E2)
/-- the call of a private method by invokevirtual, by its contract -/
theorem Go.callP {own C : String} {index kk : Nat} {y : MethodName} {bytes : ByteArray} {maxL : Nat} {ret : Option FieldType} {rm : Room} {argsL : List Value} {Q' : Option Value → Heap → List Loc → Prop} {W : Nat} {st : List Value}
    (X : Stand p l e R s m args below meth c T locs cells slots) (hx : p.tables.exec = Jvm.exec) (hZ : Z.Warmed39 s.vm) (hown : s.vm.findClass own = some m.cls)
    (w1 : (Jvm.Cond.methodLink own index y).before a0 Z = true) (w2 : (Jvm.Cond.instanceMethod y).before a0 Z = true) (wp : (Jvm.Cond.privateMethod y).before a0 Z = true) (wi : (Jvm.Cond.instantiable y.cls kk).before a0 Z = true) (w3 : (Jvm.Cond.initialized y.cls).before a0 Z = true) (w4 : (Jvm.Cond.code y bytes maxL ret).before a0 Z = true)
    (hy : y.cls ≠ "java/lang/invoke/MethodHandle" ∧ y.cls ≠ "java/lang/invoke/VarHandle") (E : Exa Z h a C) (hM : Met l Z y bytes maxL ret [] rm (.ref a :: argsL).toArray h Q') (eT : T.heap = h)
    (hlen : ∀ sig, parseMethodDescriptor y.desc = some sig → argsL.length = sig.parameters.length) (hd : decode c.code pc = .ok (.invokevirtual index, 3)) (hsize : Ls.size = c.maxLocals) (hst : st = argsL.reverse ++ .ref a :: rest) (hW : (rest.map fun v => v.category).sum ≤ W)
    (hf : rm.frames + 1 ≤ R.frames) (hl : W + (maxL + 11) + rm.locals ≤ R.locals) (hc : cells + rm.cells ≤ R.cells) (hs : slots + rm.slots ≤ R.slots)
    (k : ∀ v T' L, Stand p l e R s m args below meth c T' (locs ++ L) (cells + rm.cells) (slots + rm.slots) → Q' v T'.heap L → Go p e below s T' (mkF m (pc + 3) Ls (v.toList ++ rest)) Q kc ks) : Go p e below s T (mkF m pc Ls st) Q kc ks := by
  have wi' : (Jvm.Cond.instantiable y.cls kk).before args s = true := mvT hZ wi
  obtain ⟨cc, kc', i1, i2, i3, i4, -⟩ := Cond.instantiable_spec wi'
  have ni : kc'.isInterface = false := by revert i4; cases kc'.isInterface <;> simp
  have hp := Cond.privateMethod_at (mvP hZ wp (args := args))
  have hsel := Jvm.Stand.selects_self_of_private i1 i2 ni hp (mvT hZ w2 (args := args)) hy
  obtain ⟨cl, q1, q2⟩ := E.cell
  obtain ⟨v, vm₁, ⟨T1, L1, k1, n1⟩, -, X1, ⟨Lc, hQ1, l1, y1, z1⟩, st1⟩ := X.privateBack hx (y := y) hown (mvT hZ w1) (mvT hZ w2) hsel hp (mvT hZ w4) hy (backOf (W := W) hM hZ w4 w3 hf hl) (g := mkF m pc Ls st) rfl hsize (Steps.refl _) (a := a) (by rw [eT]; exact q1) q2 (argsL := argsL) (rest := rest) hlen hst (by show 2 * 0 + _ ≤ _; omega) hd (fun _ _ => ⟨rfl, eT, hc, hs⟩)
  dsimp only [Pt.U, Pt.locs, Pt.cells, Pt.slots] at X1 l1 y1 z1 st1 hQ1
  subst l1 y1 z1
  exact Go.trans st1 (k v T1 Lc X1 hQ1)
/-- the call of an interface's method, by the contract of the body that the receiver's class selects -/
theorem Go.callN {own C : String} {index count : Nat} {xi y : MethodName} {bytes : ByteArray} {maxL : Nat} {ret : Option FieldType} {rm : Room} {argsL : List Value} {Q' : Option Value → Heap → List Loc → Prop} {W : Nat} {st : List Value}
    (X : Stand p l e R s m args below meth c T locs cells slots) (hx : p.tables.exec = Jvm.exec) (hZ : Z.Warmed39 s.vm) (hown : s.vm.findClass own = some m.cls)
    (w1 : (Jvm.Cond.methodLink own index xi).before a0 Z = true) (w2 : (Jvm.Cond.declares xi).before a0 Z = true) (w5 : (Jvm.Cond.interfaceMethod xi.cls xi.cls xi.name xi.desc).before a0 Z = true) (w6 : (Jvm.Cond.selects C xi y).before a0 Z = true) (w7 : (Jvm.Cond.instanceMethod y).before a0 Z = true) (w8 : (Jvm.Cond.publicMethod y).before a0 Z = true) (w9 : (Jvm.Cond.unhidden C xi.name xi.desc).before a0 Z = true) (w10 : (Jvm.Cond.castable C xi.cls).before a0 Z = true)
    (w3 : (Jvm.Cond.initialized y.cls).before a0 Z = true) (w4 : (Jvm.Cond.code y bytes maxL ret).before a0 Z = true) (hy : xi.cls ≠ "java/lang/invoke/MethodHandle" ∧ xi.cls ≠ "java/lang/invoke/VarHandle") (k5 : ((Jvm.Cond.interfaceMethod xi.cls xi.cls xi.name xi.desc).onTables && (Jvm.Cond.interfaceMethod xi.cls xi.cls xi.name xi.desc).keepsFace) = true) (E : Exa Z h a C) (hM : Met l Z y bytes maxL ret [] rm (.ref a :: argsL).toArray h Q') (eT : T.heap = h)
    (hlen : ∀ sig, parseMethodDescriptor xi.desc = some sig → argsL.length = sig.parameters.length) (hd : decode c.code pc = .ok (.invokeinterface index count, 5)) (hsize : Ls.size = c.maxLocals) (hst : st = argsL.reverse ++ .ref a :: rest) (hW : (rest.map fun v => v.category).sum ≤ W)
    (hf : rm.frames + 1 ≤ R.frames) (hl : W + (maxL + 11) + rm.locals ≤ R.locals) (hc : cells + rm.cells ≤ R.cells) (hs : slots + rm.slots ≤ R.slots)
    (k : ∀ v T' L, Stand p l e R s m args below meth c T' (locs ++ L) (cells + rm.cells) (slots + rm.slots) → Q' v T'.heap L → Go p e below s T' (mkF m (pc + 5) Ls (v.toList ++ rest)) Q kc ks) : Go p e below s T (mkF m pc Ls st) Q kc ks := by
  obtain ⟨cB, kB, q1, q2, q3⟩ := isOf hZ eT E
  obtain ⟨v, vm₁, ⟨T1, L1, k1, n1⟩, -, X1, ⟨Lc, hQ1, l1, y1, z1⟩, st1⟩ := X.interfaceBack hx (xi := xi) (y := y) hown (mvT hZ w1) (mvT hZ w2) (mvT hZ w5 k5) (mvT hZ w6) (mvT hZ w7) (mvT hZ w8) (mvT hZ w9) (mvT hZ w10) hy (backOf (W := W) hM hZ w4 w3 hf hl) q1 q2 q3 (g := mkF m pc Ls st) rfl hsize (Steps.refl _) (argsL := argsL) (rest := rest) hlen hst (by show 2 * 0 + _ ≤ _; omega) hd (fun _ _ => ⟨rfl, eT, hc, hs⟩)
  dsimp only [Pt.U, Pt.locs, Pt.cells, Pt.slots] at X1 l1 y1 z1 st1 hQ1
  subst l1 y1 z1
  exact Go.trans st1 (k v T1 Lc X1 hQ1)
def cpf (f f' : Nat → Value) (sp dp nn : Nat) : Nat → Value := fun i => if dp ≤ i ∧ i < dp + nn then f (sp + (i - dp)) else f' i
theorem getD_range {i : Nat} (hi : i < n) (d : Value) : ((List.range n).map f).getD i d = f i := by simp [List.getD_eq_getElem?_getD, hi]
theorem Af.toArv (F : Af Z h a cid ty n f) (hf : ∀ i, i < n → fits ty (f i) = true) : Arv Z h a cid ty n.toInt32 ((List.range n).map f) .null := by
  obtain ⟨cl, A, r1, r2, r3, r4⟩ := F
  have z : (n.toInt32).toNatClampNeg = n := by simp only [Int32.toNatClampNeg, len_toInt r3]; rfl
  refine ⟨cl, A, r1, by rw [r2, z], ?_, fun i hi => ?_, fun i hi => ?_⟩
  · rw [Int32.lt_iff_toInt_lt, len_toInt r3]; show ¬ (n : Int) < 0; omega
  · rw [getD_range (by omega)]; exact r4 i (by omega)
  · rw [getD_range (by omega)]; exact hf i (by omega)
theorem Af.ofArv {z : Int32} {vs : List Value} {d : Value} (F : Arv Z h a cid ty z vs d) : Af Z h a cid ty z.toNatClampNeg (fun i => vs.getD i d) := by
  obtain ⟨cl, A, r1, r2, r3, H, G⟩ := F
  exact ⟨cl, A, r1, r2, (back32 r3).2, fun i hi => H i (by omega)⟩
theorem cp_at {n' sp dp nn i : Nat} (hi : i < n') (h4 : sp + nn ≤ n) (h5 : dp + nn ≤ n') :
    ((((List.range n').map f').take dp) ++ ((List.range nn).map fun i => ((List.range n).map f).getD (sp + i) .null) ++ (((List.range n').map f').drop (dp + nn))).getD i .null = cpf f f' sp dp nn i := by
  have lt : (((List.range n').map f').take dp).length = dp := by simp; omega
  have lu : ((List.range nn).map fun i => ((List.range n).map f).getD (sp + i) .null).length = nn := by simp
  rw [List.getD_eq_getElem?_getD]
  unfold cpf
  by_cases h1 : i < dp
  · rw [List.append_assoc, List.getElem?_append_left (by omega), if_neg (by omega)]
    simp [List.getElem?_take, h1, hi]
  · by_cases h2 : i < dp + nn
    · rw [List.getElem?_append_left (by rw [List.length_append]; omega), List.getElem?_append_right (by omega), if_pos ⟨by omega, h2⟩, lt]
      have h3 : i - dp < nn := by omega
      have h6 : sp + (i - dp) < n := by omega
      simp [h3, List.getD_eq_getElem?_getD, h6]
    · rw [List.getElem?_append_right (by rw [List.length_append]; omega), if_neg (by omega), List.length_append, lt, lu]
      have h3 : dp + nn + (i - (dp + nn)) = i := by omega
      simp [List.getElem?_drop, h3, hi]
theorem Go.acopy {own : String} {index W n0 n' : Nat} {b : Addr} {cid' : ClassId} {sp dp nn : Int32} (X : Stand p l e R s m args below meth c T locs cells slots) (hx : p.tables.exec = Jvm.exec) (hZ : Z.Warmed39 s.vm) (hown : s.vm.findClass own = some m.cls)
    (w1 : (Jvm.Cond.methodLink own index ⟨"java/lang/System", "arraycopy", "(Ljava/lang/Object;ILjava/lang/Object;II)V"⟩).before a0 Z = true) (w2 : (Jvm.Cond.native ⟨"java/lang/System", "arraycopy", "(Ljava/lang/Object;ILjava/lang/Object;II)V"⟩).before a0 Z = true) (w3 : (Jvm.Cond.static ⟨"java/lang/System", "arraycopy", "(Ljava/lang/Object;ILjava/lang/Object;II)V"⟩).before a0 Z = true) (w4 : (Jvm.Cond.initialized "java/lang/System").before a0 Z = true)
    (eT : T.heap = h) (A : Af Z h a cid ty n f) (B : Af Z h b cid' ty n' f') (hty : refKind ty = false) (hfa : ∀ i, i < n → fits ty (f i) = true) (hfb : ∀ i, i < n' → fits ty (f' i) = true) (h1 : ¬ sp < 0) (h2 : ¬ dp < 0) (h3 : ¬ nn < 0) (h4 : sp.toNatClampNeg + nn.toNatClampNeg ≤ n) (h5 : dp.toNatClampNeg + nn.toNatClampNeg ≤ n')
    (N : Fr n0 locs) (ge : n0 ≤ b) (hd : decode c.code pc = .ok (.invokestatic index, 3)) (hsize : Ls.size = c.maxLocals) (hW : (rest.map fun v => v.category).sum ≤ W) (hf : 1 ≤ R.frames) (hl : W + 18 ≤ R.locals)
    (k : ∀ T' h' L, Stand p l e R s m args below meth c T' L cells slots → T'.heap = h' → Fr n0 L → Keep h h' [b] → Af Z h' b cid' ty n' (cpf f f' sp.toNatClampNeg dp.toNatClampNeg nn.toNatClampNeg) → Go p e below s T' (mkF m (pc + 3) Ls rest) Q kc ks) : Go p e below s T (mkF m pc Ls (.int nn :: .int dp :: .ref b :: .int sp :: .ref a :: rest)) Q kc ks := by
  have za : (n.toInt32).toNatClampNeg = n := by obtain ⟨_, _, _, _, r3, _⟩ := A; simp only [Int32.toNatClampNeg, len_toInt r3]; rfl
  have zb : (n'.toInt32).toNatClampNeg = n' := by obtain ⟨_, _, _, _, r3, _⟩ := B; simp only [Int32.toNatClampNeg, len_toInt r3]; rfl
  obtain ⟨T', h', L, X', e', NL, K, V, st⟩ := cpA X hx hZ hown w1 w2 w3 w4 eT (A.toArv hfa) (B.toArv hfb) (Or.inl ⟨rfl, hty⟩) h1 h2 h3 (by rw [za]; exact h4) (by rw [zb]; exact h5) rfl (by simp; exact h5) N ge (g := mkF m pc Ls (.int nn :: .int dp :: .ref b :: .int sp :: .ref a :: rest)) rfl hsize rfl hd hf (W := W) (by show 2 * 0 + _ ≤ _; omega) (by show W + (7 + 11) ≤ _; omega)
  have V' := Af.ofArv V
  rw [zb] at V'
  exact Go.step st (k T' h' L X' e' NL K (V'.congr fun i hi => (cp_at hi h4 h5).symm))
theorem Keep.wr1 {ha hb hc : Heap} {ws : List Addr} {a : Addr} {sl : Nat} {v : Value} (K : Keep ha hb ws) (W : Wr hb hc a sl v) (q : a ∈ ws ∨ ha.size ≤ a) : Keep ha hc ws := Jvm.RoadKit.Keep.wr K W q
end Heap
end Jvm.OwnK
namespace Jvm.OwnK
open Sem ClassFile Op Lib Jvm.Free Jvm.Stand Jvm.LawKit Jvm.RoadKit
section Start
variable {s : State} {args : Array Value}
theorem st_static {C f d K : String} (h : (Jvm.Cond.exactly (Jvm.Term.static C f d) K).value args s none s [] = some true) (hi : (Jvm.Cond.initializedFor C f d).before args s = true ∨ ((Jvm.Cond.initialized C).before args s = true ∧ (Jvm.Cond.laysStatic C f d).before args s = true)) :
    ∃ g, (Jvm.Term.static C f d).eval args s none [] s = some (.ref g) ∧ Sta s s.heap C f d (.ref g) ∧ Exa s s.heap g K := by
  obtain ⟨g, eg⟩ := exa_v h
  exact ⟨g, eg, Sta.start eg hi, Exa.start eg h⟩
theorem st_int {t : Jvm.Term} {k : Int32} (h : (Jvm.Cond.eq t (.int k)).value args s none s [] = some true) : t.eval args s none [] s = some (.int k) := by
  obtain ⟨x, y, ha, hb, k1, k2⟩ := cmp_v (Or.inl h)
  have hb' : (Jvm.Term.int k).eval args s none [] s = some (.int k) := Term.int_eval k
  cases hb.symm.trans hb'
  obtain ⟨z, rfl⟩ := k2
  have q := gotT (Cond.eq_ints ha hb') h
  rw [ha, q]
theorem st_ref {t u : Jvm.Term} {g : Addr} (h : (Jvm.Cond.eq t u).value args s none s [] = some true) (hu : u.eval args s none [] s = some (.ref g)) : t.eval args s none [] s = some (.ref g) := by
  obtain ⟨x, y, ha, hb, k1, k2⟩ := cmp_v (Or.inl h)
  cases hb.symm.trans hu
  have hx : x.isRef = true := k2.2
  have q := gotT (eq_R ha hu hx rfl) h
  rw [ha, q]
theorem st_fieldI {t : Jvm.Term} {a : Addr} {C n d : String} {k : Int32} (ev : t.eval args s none [] s = some (.ref a)) (h : (Jvm.Cond.eq (.field t C n d) (.int k)).value args s none s [] = some true) : Fld s s.heap a C n d (.int k) :=
  Fld.start (by rw [← fld_at ev]; exact st_int h)
theorem st_fieldR {t : Jvm.Term} {a : Addr} {C n d K : String} (ev : t.eval args s none [] s = some (.ref a)) (h : (Jvm.Cond.exactly (.field t C n d) K).value args s none s [] = some true) :
    ∃ g, (Jvm.Term.field t C n d).eval args s none [] s = some (.ref g) ∧ Fld s s.heap a C n d (.ref g) ∧ Exa s s.heap g K := by
  obtain ⟨g, eg⟩ := exa_v h
  exact ⟨g, eg, Fld.start (by rw [← fld_at ev]; exact eg), Exa.start eg h⟩
/-- an array that stood before the law, with its length -/
theorem st_arr {t : Jvm.Term} {a : Addr} {ty : FieldType} {k : Int32} {n : Nat} (ev : t.eval args s none [] s = some (.ref a)) (h : (Jvm.Cond.arrayOf t ty).value args s none s [] = some true) (hl : (Jvm.Cond.eq (.length t) (.int k)).value args s none s [] = some true) (hk : k = n.toInt32) (hn : n < 2 ^ 31) :
    ∃ c : Cell, s.heap[a]? = some c ∧ Af s s.heap a c.cls ty n (fun i => (c.slots[i]?).getD .null) := by
  obtain ⟨c, A⟩ := Arr.start ev h
  have e1 := st_int hl
  obtain ⟨a', cell, g1, g2, g5, g3⟩ := Jvm.Lib.length_spec e1
  cases ev.symm.trans g1
  have g4 : s.arrayAt? a = some c := A.fin (Vm.Alike.refl _)
  cases g4.symm.trans g2
  injection g3 with g3
  have g6 : c.slots.size = n := by
    have q : (c.slots.size.toInt32).toInt = (n.toInt32).toInt := by rw [← g3, hk]
    rw [len_toInt g5, len_toInt hn] at q
    omega
  refine ⟨c, A.1, c, A, rfl, g6, hn, fun i hi => ?_⟩
  have q : i < c.slots.size := by omega
  simp [Array.getElem?_eq_getElem q]
theorem st_elem {t : Jvm.Term} {a : Addr} {j : Int32} {c : Cell} {v : Value} (ev : t.eval args s none [] s = some (.ref a)) (hc : s.heap[a]? = some c) (h : (Jvm.Term.elem t (.int j)).eval args s none [] s = some v) : (c.slots[j.toNatClampNeg]?).getD .null = v := by
  have q := (elem_in h ev (Term.int_eval j) hc).2
  rw [q]; rfl
theorem Af.known {Z : State} {h : Heap} {a : Addr} {cid : ClassId} {ty : FieldType} {n j : Nat} {f : Nat → Value} {v : Value} (F : Af Z h a cid ty n f) (q : f j = v) : Af Z h a cid ty n (updV f j v) := F.congr fun i _ => by
  by_cases e : i = j
  · subst e; simp [updV, q]
  · simp [updV, e]
end Start
end Jvm.OwnK
namespace Jvm.Pilot.@@N@@
open Jvm Jvm.ClassFile Sem Op Lib Jvm.Free Jvm.Stand Jvm.LawKit Jvm.RoadKit Jvm.OwnK Bundle Jvm.Pilot.@@N@@.Jvm.D
theorem w0 {Z : State} {a0 : Array Value} (hw : ∀ d ∈ tables_1, d.before a0 Z = true) : (Jvm.Cond.arrayClass Jvm.ClassFile.FieldType.int).before a0 Z = true := hw _ (List.mem_of_getElem? (i := 0) rfl)
theorem w1 {Z : State} {a0 : Array Value} (hw : ∀ d ∈ tables_1, d.before a0 Z = true) : (Jvm.Cond.classLink "com/example/farcall/farcall/XdrWriterToByteArrayPinLaw" (7 : Nat) "com/example/farcall/farcall/XdrWriter").before a0 Z = true := hw _ (List.mem_of_getElem? (i := 1) rfl)
theorem w2 {Z : State} {a0 : Array Value} (hw : ∀ d ∈ tables_1, d.before a0 Z = true) : (Jvm.Cond.instantiable "com/example/farcall/farcall/XdrWriter" (2 : Nat)).before a0 Z = true := hw _ (List.mem_of_getElem? (i := 2) rfl)
theorem w3 {Z : State} {a0 : Array Value} (hw : ∀ d ∈ tables_1, d.before a0 Z = true) : (Jvm.Cond.initialized "com/example/farcall/farcall/XdrWriter").before a0 Z = true := hw _ (List.mem_of_getElem? (i := 3) rfl)
theorem w4 {Z : State} {a0 : Array Value} (hw : ∀ d ∈ tables_1, d.before a0 Z = true) : (Jvm.Cond.methodLink "com/example/farcall/farcall/XdrWriterToByteArrayPinLaw" (9 : Nat) ({ cls := "com/example/farcall/farcall/XdrWriter", name := "<init>", desc := "()V" } : Jvm.MethodName)).before a0 Z = true := hw _ (List.mem_of_getElem? (i := 4) rfl)
theorem w5 {Z : State} {a0 : Array Value} (hw : ∀ d ∈ tables_1, d.before a0 Z = true) : (Jvm.Cond.instanceMethod ({ cls := "com/example/farcall/farcall/XdrWriter", name := "<init>", desc := "()V" } : Jvm.MethodName)).before a0 Z = true := hw _ (List.mem_of_getElem? (i := 5) rfl)
theorem w6 {Z : State} {a0 : Array Value} (hw : ∀ d ∈ tables_1, d.before a0 Z = true) : (Jvm.Cond.code ({ cls := "com/example/farcall/farcall/XdrWriter", name := "<init>", desc := "()V" } : Jvm.MethodName) prog_55_method_1_code (1 : Nat) (Option.none : Option Jvm.ClassFile.FieldType)).before a0 Z = true := hw _ (List.mem_of_getElem? (i := 6) rfl)
theorem w7 {Z : State} {a0 : Array Value} (hw : ∀ d ∈ tables_1, d.before a0 Z = true) : (Jvm.Cond.methodLink "com/example/farcall/farcall/XdrWriter" (1 : Nat) ({ cls := "java/lang/Object", name := "<init>", desc := "()V" } : Jvm.MethodName)).before a0 Z = true := hw _ (List.mem_of_getElem? (i := 7) rfl)
theorem w8 {Z : State} {a0 : Array Value} (hw : ∀ d ∈ tables_1, d.before a0 Z = true) : (Jvm.Cond.instanceMethod ({ cls := "java/lang/Object", name := "<init>", desc := "()V" } : Jvm.MethodName)).before a0 Z = true := hw _ (List.mem_of_getElem? (i := 8) rfl)
theorem w9 {Z : State} {a0 : Array Value} (hw : ∀ d ∈ tables_1, d.before a0 Z = true) : (Jvm.Cond.code ({ cls := "java/lang/Object", name := "<init>", desc := "()V" } : Jvm.MethodName) object_method_1_code (1 : Nat) (Option.none : Option Jvm.ClassFile.FieldType)).before a0 Z = true := hw _ (List.mem_of_getElem? (i := 9) rfl)
theorem w10 {Z : State} {a0 : Array Value} (hw : ∀ d ∈ tables_1, d.before a0 Z = true) : (Jvm.Cond.arrayClass Jvm.ClassFile.FieldType.byte).before a0 Z = true := hw _ (List.mem_of_getElem? (i := 10) rfl)
theorem w11 {Z : State} {a0 : Array Value} (hw : ∀ d ∈ tables_1, d.before a0 Z = true) : (Jvm.Cond.fieldLink "com/example/farcall/farcall/XdrWriter" (9 : Nat) "com/example/farcall/farcall/XdrWriter" "bytes" "[B").before a0 Z = true := hw _ (List.mem_of_getElem? (i := 11) rfl)
theorem w12 {Z : State} {a0 : Array Value} (hw : ∀ d ∈ tables_1, d.before a0 Z = true) : (Jvm.Cond.lays "com/example/farcall/farcall/XdrWriter" "com/example/farcall/farcall/XdrWriter" "bytes" "[B").before a0 Z = true := hw _ (List.mem_of_getElem? (i := 12) rfl)
theorem w13 {Z : State} {a0 : Array Value} (hw : ∀ d ∈ tables_1, d.before a0 Z = true) : (Jvm.Cond.fieldLink "com/example/farcall/farcall/XdrWriter" (13 : Nat) "com/example/farcall/farcall/XdrWriter" "end" "I").before a0 Z = true := hw _ (List.mem_of_getElem? (i := 13) rfl)
theorem w14 {Z : State} {a0 : Array Value} (hw : ∀ d ∈ tables_1, d.before a0 Z = true) : (Jvm.Cond.lays "com/example/farcall/farcall/XdrWriter" "com/example/farcall/farcall/XdrWriter" "end" "I").before a0 Z = true := hw _ (List.mem_of_getElem? (i := 14) rfl)
theorem w15 {Z : State} {a0 : Array Value} (hw : ∀ d ∈ tables_1, d.before a0 Z = true) : (Jvm.Cond.methodLink "com/example/farcall/farcall/XdrWriterToByteArrayPinLaw" (16 : Nat) ({ cls := "com/example/farcall/farcall/XdrWriter", name := "writeInt", desc := "(I)V" } : Jvm.MethodName)).before a0 Z = true := hw _ (List.mem_of_getElem? (i := 15) rfl)
theorem w16 {Z : State} {a0 : Array Value} (hw : ∀ d ∈ tables_1, d.before a0 Z = true) : (Jvm.Cond.declares ({ cls := "com/example/farcall/farcall/XdrWriter", name := "writeInt", desc := "(I)V" } : Jvm.MethodName)).before a0 Z = true := hw _ (List.mem_of_getElem? (i := 16) rfl)
theorem w17 {Z : State} {a0 : Array Value} (hw : ∀ d ∈ tables_1, d.before a0 Z = true) : (Jvm.Cond.instanceMethod ({ cls := "com/example/farcall/farcall/XdrWriter", name := "writeInt", desc := "(I)V" } : Jvm.MethodName)).before a0 Z = true := hw _ (List.mem_of_getElem? (i := 17) rfl)
theorem w18 {Z : State} {a0 : Array Value} (hw : ∀ d ∈ tables_1, d.before a0 Z = true) : (Jvm.Cond.selects "com/example/farcall/farcall/XdrWriter" ({ cls := "com/example/farcall/farcall/XdrWriter", name := "writeInt", desc := "(I)V" } : Jvm.MethodName) ({ cls := "com/example/farcall/farcall/XdrWriter", name := "writeInt", desc := "(I)V" } : Jvm.MethodName)).before a0 Z = true := hw _ (List.mem_of_getElem? (i := 18) rfl)
theorem w19 {Z : State} {a0 : Array Value} (hw : ∀ d ∈ tables_1, d.before a0 Z = true) : (Jvm.Cond.code ({ cls := "com/example/farcall/farcall/XdrWriter", name := "writeInt", desc := "(I)V" } : Jvm.MethodName) prog_55_method_2_code (2 : Nat) (Option.none : Option Jvm.ClassFile.FieldType)).before a0 Z = true := hw _ (List.mem_of_getElem? (i := 19) rfl)
theorem w20 {Z : State} {a0 : Array Value} (hw : ∀ d ∈ tables_1, d.before a0 Z = true) : (Jvm.Cond.methodLink "com/example/farcall/farcall/XdrWriter" (17 : Nat) ({ cls := "com/example/farcall/farcall/XdrWriter", name := "ensureRoom", desc := "(I)V" } : Jvm.MethodName)).before a0 Z = true := hw _ (List.mem_of_getElem? (i := 20) rfl)
theorem w21 {Z : State} {a0 : Array Value} (hw : ∀ d ∈ tables_1, d.before a0 Z = true) : (Jvm.Cond.instanceMethod ({ cls := "com/example/farcall/farcall/XdrWriter", name := "ensureRoom", desc := "(I)V" } : Jvm.MethodName)).before a0 Z = true := hw _ (List.mem_of_getElem? (i := 21) rfl)
theorem w22 {Z : State} {a0 : Array Value} (hw : ∀ d ∈ tables_1, d.before a0 Z = true) : (Jvm.Cond.privateMethod ({ cls := "com/example/farcall/farcall/XdrWriter", name := "ensureRoom", desc := "(I)V" } : Jvm.MethodName)).before a0 Z = true := hw _ (List.mem_of_getElem? (i := 22) rfl)
theorem w23 {Z : State} {a0 : Array Value} (hw : ∀ d ∈ tables_1, d.before a0 Z = true) : (Jvm.Cond.code ({ cls := "com/example/farcall/farcall/XdrWriter", name := "ensureRoom", desc := "(I)V" } : Jvm.MethodName) prog_55_method_22_code (3 : Nat) (Option.none : Option Jvm.ClassFile.FieldType)).before a0 Z = true := hw _ (List.mem_of_getElem? (i := 23) rfl)
theorem w24 {Z : State} {a0 : Array Value} (hw : ∀ d ∈ tables_1, d.before a0 Z = true) : (Jvm.Cond.methodLink "com/example/farcall/farcall/XdrWriter" (21 : Nat) ({ cls := "com/example/farcall/farcall/XdrWriter", name := "putInt", desc := "(II)V" } : Jvm.MethodName)).before a0 Z = true := hw _ (List.mem_of_getElem? (i := 24) rfl)
theorem w25 {Z : State} {a0 : Array Value} (hw : ∀ d ∈ tables_1, d.before a0 Z = true) : (Jvm.Cond.instanceMethod ({ cls := "com/example/farcall/farcall/XdrWriter", name := "putInt", desc := "(II)V" } : Jvm.MethodName)).before a0 Z = true := hw _ (List.mem_of_getElem? (i := 25) rfl)
theorem w26 {Z : State} {a0 : Array Value} (hw : ∀ d ∈ tables_1, d.before a0 Z = true) : (Jvm.Cond.privateMethod ({ cls := "com/example/farcall/farcall/XdrWriter", name := "putInt", desc := "(II)V" } : Jvm.MethodName)).before a0 Z = true := hw _ (List.mem_of_getElem? (i := 26) rfl)
theorem w27 {Z : State} {a0 : Array Value} (hw : ∀ d ∈ tables_1, d.before a0 Z = true) : (Jvm.Cond.code ({ cls := "com/example/farcall/farcall/XdrWriter", name := "putInt", desc := "(II)V" } : Jvm.MethodName) prog_55_method_21_code (3 : Nat) (Option.none : Option Jvm.ClassFile.FieldType)).before a0 Z = true := hw _ (List.mem_of_getElem? (i := 27) rfl)
theorem w28 {Z : State} {a0 : Array Value} (hw : ∀ d ∈ tables_1, d.before a0 Z = true) : (Jvm.Cond.methodLink "com/example/farcall/farcall/XdrWriterToByteArrayPinLaw" (23 : Nat) ({ cls := "com/example/farcall/farcall/XdrWriter", name := "toByteArray", desc := "()[B" } : Jvm.MethodName)).before a0 Z = true := hw _ (List.mem_of_getElem? (i := 28) rfl)
theorem w29 {Z : State} {a0 : Array Value} (hw : ∀ d ∈ tables_1, d.before a0 Z = true) : (Jvm.Cond.declares ({ cls := "com/example/farcall/farcall/XdrWriter", name := "toByteArray", desc := "()[B" } : Jvm.MethodName)).before a0 Z = true := hw _ (List.mem_of_getElem? (i := 29) rfl)
theorem w30 {Z : State} {a0 : Array Value} (hw : ∀ d ∈ tables_1, d.before a0 Z = true) : (Jvm.Cond.instanceMethod ({ cls := "com/example/farcall/farcall/XdrWriter", name := "toByteArray", desc := "()[B" } : Jvm.MethodName)).before a0 Z = true := hw _ (List.mem_of_getElem? (i := 30) rfl)
theorem w31 {Z : State} {a0 : Array Value} (hw : ∀ d ∈ tables_1, d.before a0 Z = true) : (Jvm.Cond.selects "com/example/farcall/farcall/XdrWriter" ({ cls := "com/example/farcall/farcall/XdrWriter", name := "toByteArray", desc := "()[B" } : Jvm.MethodName) ({ cls := "com/example/farcall/farcall/XdrWriter", name := "toByteArray", desc := "()[B" } : Jvm.MethodName)).before a0 Z = true := hw _ (List.mem_of_getElem? (i := 31) rfl)
theorem w32 {Z : State} {a0 : Array Value} (hw : ∀ d ∈ tables_1, d.before a0 Z = true) : (Jvm.Cond.code ({ cls := "com/example/farcall/farcall/XdrWriter", name := "toByteArray", desc := "()[B" } : Jvm.MethodName) prog_55_method_19_code (1 : Nat) (Option.some (Jvm.ClassFile.FieldType.array Jvm.ClassFile.FieldType.byte))).before a0 Z = true := hw _ (List.mem_of_getElem? (i := 32) rfl)
theorem w33 {Z : State} {a0 : Array Value} (hw : ∀ d ∈ tables_1, d.before a0 Z = true) : (Jvm.Cond.methodLink "com/example/farcall/farcall/XdrWriter" (136 : Nat) ({ cls := "java/util/Arrays", name := "copyOfRange", desc := "([BII)[B" } : Jvm.MethodName)).before a0 Z = true := hw _ (List.mem_of_getElem? (i := 33) rfl)
theorem w34 {Z : State} {a0 : Array Value} (hw : ∀ d ∈ tables_1, d.before a0 Z = true) : (Jvm.Cond.static ({ cls := "java/util/Arrays", name := "copyOfRange", desc := "([BII)[B" } : Jvm.MethodName)).before a0 Z = true := hw _ (List.mem_of_getElem? (i := 34) rfl)
theorem w35 {Z : State} {a0 : Array Value} (hw : ∀ d ∈ tables_1, d.before a0 Z = true) : (Jvm.Cond.initialized "java/util/Arrays").before a0 Z = true := hw _ (List.mem_of_getElem? (i := 35) rfl)
theorem w36 {Z : State} {a0 : Array Value} (hw : ∀ d ∈ tables_1, d.before a0 Z = true) : (Jvm.Cond.code ({ cls := "java/util/Arrays", name := "copyOfRange", desc := "([BII)[B" } : Jvm.MethodName) jdk_65_method_132_code (3 : Nat) (Option.some (Jvm.ClassFile.FieldType.array Jvm.ClassFile.FieldType.byte))).before a0 Z = true := hw _ (List.mem_of_getElem? (i := 36) rfl)
theorem w37 {Z : State} {a0 : Array Value} (hw : ∀ d ∈ tables_1, d.before a0 Z = true) : (Jvm.Cond.methodLink "java/util/Arrays" (339 : Nat) ({ cls := "java/util/Arrays", name := "copyOfRangeByte", desc := "([BII)[B" } : Jvm.MethodName)).before a0 Z = true := hw _ (List.mem_of_getElem? (i := 37) rfl)
theorem w38 {Z : State} {a0 : Array Value} (hw : ∀ d ∈ tables_1, d.before a0 Z = true) : (Jvm.Cond.static ({ cls := "java/util/Arrays", name := "copyOfRangeByte", desc := "([BII)[B" } : Jvm.MethodName)).before a0 Z = true := hw _ (List.mem_of_getElem? (i := 38) rfl)
theorem w39 {Z : State} {a0 : Array Value} (hw : ∀ d ∈ tables_1, d.before a0 Z = true) : (Jvm.Cond.code ({ cls := "java/util/Arrays", name := "copyOfRangeByte", desc := "([BII)[B" } : Jvm.MethodName) jdk_65_method_133_code (5 : Nat) (Option.some (Jvm.ClassFile.FieldType.array Jvm.ClassFile.FieldType.byte))).before a0 Z = true := hw _ (List.mem_of_getElem? (i := 39) rfl)
theorem w40 {Z : State} {a0 : Array Value} (hw : ∀ d ∈ tables_1, d.before a0 Z = true) : (Jvm.Cond.methodLink "java/util/Arrays" (343 : Nat) ({ cls := "java/util/Arrays", name := "checkLength", desc := "(II)V" } : Jvm.MethodName)).before a0 Z = true := hw _ (List.mem_of_getElem? (i := 40) rfl)
theorem w41 {Z : State} {a0 : Array Value} (hw : ∀ d ∈ tables_1, d.before a0 Z = true) : (Jvm.Cond.static ({ cls := "java/util/Arrays", name := "checkLength", desc := "(II)V" } : Jvm.MethodName)).before a0 Z = true := hw _ (List.mem_of_getElem? (i := 41) rfl)
theorem w42 {Z : State} {a0 : Array Value} (hw : ∀ d ∈ tables_1, d.before a0 Z = true) : (Jvm.Cond.code ({ cls := "java/util/Arrays", name := "checkLength", desc := "(II)V" } : Jvm.MethodName) jdk_65_method_131_code (2 : Nat) (Option.none : Option Jvm.ClassFile.FieldType)).before a0 Z = true := hw _ (List.mem_of_getElem? (i := 42) rfl)
theorem w43 {Z : State} {a0 : Array Value} (hw : ∀ d ∈ tables_1, d.before a0 Z = true) : (Jvm.Cond.methodLink "java/util/Arrays" (304 : Nat) ({ cls := "java/lang/Math", name := "min", desc := "(II)I" } : Jvm.MethodName)).before a0 Z = true := hw _ (List.mem_of_getElem? (i := 43) rfl)
theorem w44 {Z : State} {a0 : Array Value} (hw : ∀ d ∈ tables_1, d.before a0 Z = true) : (Jvm.Cond.static ({ cls := "java/lang/Math", name := "min", desc := "(II)I" } : Jvm.MethodName)).before a0 Z = true := hw _ (List.mem_of_getElem? (i := 44) rfl)
theorem w45 {Z : State} {a0 : Array Value} (hw : ∀ d ∈ tables_1, d.before a0 Z = true) : (Jvm.Cond.initialized "java/lang/Math").before a0 Z = true := hw _ (List.mem_of_getElem? (i := 45) rfl)
theorem w46 {Z : State} {a0 : Array Value} (hw : ∀ d ∈ tables_1, d.before a0 Z = true) : (Jvm.Cond.code ({ cls := "java/lang/Math", name := "min", desc := "(II)I" } : Jvm.MethodName) jdk_29_method_69_code (2 : Nat) (Option.some Jvm.ClassFile.FieldType.int)).before a0 Z = true := hw _ (List.mem_of_getElem? (i := 46) rfl)
theorem w47 {Z : State} {a0 : Array Value} (hw : ∀ d ∈ tables_1, d.before a0 Z = true) : (Jvm.Cond.methodLink "java/util/Arrays" (150 : Nat) ({ cls := "java/lang/System", name := "arraycopy", desc := "(Ljava/lang/Object;ILjava/lang/Object;II)V" } : Jvm.MethodName)).before a0 Z = true := hw _ (List.mem_of_getElem? (i := 47) rfl)
theorem w48 {Z : State} {a0 : Array Value} (hw : ∀ d ∈ tables_1, d.before a0 Z = true) : (Jvm.Cond.static ({ cls := "java/lang/System", name := "arraycopy", desc := "(Ljava/lang/Object;ILjava/lang/Object;II)V" } : Jvm.MethodName)).before a0 Z = true := hw _ (List.mem_of_getElem? (i := 48) rfl)
theorem w49 {Z : State} {a0 : Array Value} (hw : ∀ d ∈ tables_1, d.before a0 Z = true) : (Jvm.Cond.initialized "java/lang/System").before a0 Z = true := hw _ (List.mem_of_getElem? (i := 49) rfl)
theorem w50 {Z : State} {a0 : Array Value} (hw : ∀ d ∈ tables_1, d.before a0 Z = true) : (Jvm.Cond.native ({ cls := "java/lang/System", name := "arraycopy", desc := "(Ljava/lang/Object;ILjava/lang/Object;II)V" } : Jvm.MethodName)).before a0 Z = true := hw _ (List.mem_of_getElem? (i := 50) rfl)
theorem w51 {Z : State} {a0 : Array Value} (hw : ∀ d ∈ tables_1, d.before a0 Z = true) : (Jvm.Cond.methodLink "com/example/farcall/farcall/XdrWriterToByteArrayPinLaw" (27 : Nat) ({ cls := "com/example/farcall/farcall/XdrWriterToByteArrayPinLaw", name := "matches", desc := "([B[II)Z" } : Jvm.MethodName)).before a0 Z = true := hw _ (List.mem_of_getElem? (i := 51) rfl)
theorem w52 {Z : State} {a0 : Array Value} (hw : ∀ d ∈ tables_1, d.before a0 Z = true) : (Jvm.Cond.static ({ cls := "com/example/farcall/farcall/XdrWriterToByteArrayPinLaw", name := "matches", desc := "([B[II)Z" } : Jvm.MethodName)).before a0 Z = true := hw _ (List.mem_of_getElem? (i := 52) rfl)
theorem w53 {Z : State} {a0 : Array Value} (hw : ∀ d ∈ tables_1, d.before a0 Z = true) : (Jvm.Cond.initialized "com/example/farcall/farcall/XdrWriterToByteArrayPinLaw").before a0 Z = true := hw _ (List.mem_of_getElem? (i := 53) rfl)
theorem w54 {Z : State} {a0 : Array Value} (hw : ∀ d ∈ tables_1, d.before a0 Z = true) : (Jvm.Cond.code ({ cls := "com/example/farcall/farcall/XdrWriterToByteArrayPinLaw", name := "matches", desc := "([B[II)Z" } : Jvm.MethodName) method_4_code (3 : Nat) (Option.some Jvm.ClassFile.FieldType.boolean)).before a0 Z = true := hw _ (List.mem_of_getElem? (i := 54) rfl)
theorem w55 {Z : State} {a0 : Array Value} (hw : ∀ d ∈ tables_1, d.before a0 Z = true) : (Jvm.Cond.methodLink "com/example/farcall/farcall/XdrWriterToByteArrayPinLaw" (33 : Nat) ({ cls := "com/example/farcall/farcall/XdrWriterToByteArrayPinLaw", name := "unitAt", desc := "([BI)I" } : Jvm.MethodName)).before a0 Z = true := hw _ (List.mem_of_getElem? (i := 55) rfl)
theorem w56 {Z : State} {a0 : Array Value} (hw : ∀ d ∈ tables_1, d.before a0 Z = true) : (Jvm.Cond.static ({ cls := "com/example/farcall/farcall/XdrWriterToByteArrayPinLaw", name := "unitAt", desc := "([BI)I" } : Jvm.MethodName)).before a0 Z = true := hw _ (List.mem_of_getElem? (i := 56) rfl)
theorem w57 {Z : State} {a0 : Array Value} (hw : ∀ d ∈ tables_1, d.before a0 Z = true) : (Jvm.Cond.code ({ cls := "com/example/farcall/farcall/XdrWriterToByteArrayPinLaw", name := "unitAt", desc := "([BI)I" } : Jvm.MethodName) method_3_code (3 : Nat) (Option.some Jvm.ClassFile.FieldType.int)).before a0 Z = true := hw _ (List.mem_of_getElem? (i := 57) rfl)
theorem w58 {Z : State} {a0 : Array Value} (hw : ∀ d ∈ tables_1, d.before a0 Z = true) : (Jvm.Cond.methodLink "com/example/farcall/farcall/XdrWriterToByteArrayPinLaw" (12 : Nat) ({ cls := "com/example/farcall/farcall/XdrWriter", name := "writeLong", desc := "(J)V" } : Jvm.MethodName)).before a0 Z = true := hw _ (List.mem_of_getElem? (i := 58) rfl)
theorem w59 {Z : State} {a0 : Array Value} (hw : ∀ d ∈ tables_1, d.before a0 Z = true) : (Jvm.Cond.declares ({ cls := "com/example/farcall/farcall/XdrWriter", name := "writeLong", desc := "(J)V" } : Jvm.MethodName)).before a0 Z = true := hw _ (List.mem_of_getElem? (i := 59) rfl)
theorem w60 {Z : State} {a0 : Array Value} (hw : ∀ d ∈ tables_1, d.before a0 Z = true) : (Jvm.Cond.instanceMethod ({ cls := "com/example/farcall/farcall/XdrWriter", name := "writeLong", desc := "(J)V" } : Jvm.MethodName)).before a0 Z = true := hw _ (List.mem_of_getElem? (i := 60) rfl)
theorem w61 {Z : State} {a0 : Array Value} (hw : ∀ d ∈ tables_1, d.before a0 Z = true) : (Jvm.Cond.selects "com/example/farcall/farcall/XdrWriter" ({ cls := "com/example/farcall/farcall/XdrWriter", name := "writeLong", desc := "(J)V" } : Jvm.MethodName) ({ cls := "com/example/farcall/farcall/XdrWriter", name := "writeLong", desc := "(J)V" } : Jvm.MethodName)).before a0 Z = true := hw _ (List.mem_of_getElem? (i := 61) rfl)
theorem w62 {Z : State} {a0 : Array Value} (hw : ∀ d ∈ tables_1, d.before a0 Z = true) : (Jvm.Cond.code ({ cls := "com/example/farcall/farcall/XdrWriter", name := "writeLong", desc := "(J)V" } : Jvm.MethodName) prog_55_method_3_code (3 : Nat) (Option.none : Option Jvm.ClassFile.FieldType)).before a0 Z = true := hw _ (List.mem_of_getElem? (i := 62) rfl)
theorem w63 {Z : State} {a0 : Array Value} (hw : ∀ d ∈ tables_1, d.before a0 Z = true) : (Jvm.Cond.methodLink "com/example/farcall/farcall/XdrWriter" (25 : Nat) ({ cls := "com/example/farcall/farcall/XdrWriter", name := "writeInt", desc := "(I)V" } : Jvm.MethodName)).before a0 Z = true := hw _ (List.mem_of_getElem? (i := 63) rfl)
theorem w64 {Z : State} {a0 : Array Value} (hw : ∀ d ∈ tables_1, d.before a0 Z = true) : (Jvm.Cond.constantLong "com/example/farcall/farcall/XdrWriterToByteArrayPinLaw" (10 : Nat) (-1 : Int64)).before a0 Z = true := hw _ (List.mem_of_getElem? (i := 64) rfl)
theorem w65 {Z : State} {a0 : Array Value} (hw : ∀ d ∈ tables_1, d.before a0 Z = true) : (Jvm.Cond.methodLink "com/example/farcall/farcall/XdrWriterToByteArrayPinLaw" (20 : Nat) ({ cls := "com/example/farcall/farcall/XdrWriter", name := "reset", desc := "()V" } : Jvm.MethodName)).before a0 Z = true := hw _ (List.mem_of_getElem? (i := 65) rfl)
theorem w66 {Z : State} {a0 : Array Value} (hw : ∀ d ∈ tables_1, d.before a0 Z = true) : (Jvm.Cond.declares ({ cls := "com/example/farcall/farcall/XdrWriter", name := "reset", desc := "()V" } : Jvm.MethodName)).before a0 Z = true := hw _ (List.mem_of_getElem? (i := 66) rfl)
theorem w67 {Z : State} {a0 : Array Value} (hw : ∀ d ∈ tables_1, d.before a0 Z = true) : (Jvm.Cond.instanceMethod ({ cls := "com/example/farcall/farcall/XdrWriter", name := "reset", desc := "()V" } : Jvm.MethodName)).before a0 Z = true := hw _ (List.mem_of_getElem? (i := 67) rfl)
theorem w68 {Z : State} {a0 : Array Value} (hw : ∀ d ∈ tables_1, d.before a0 Z = true) : (Jvm.Cond.selects "com/example/farcall/farcall/XdrWriter" ({ cls := "com/example/farcall/farcall/XdrWriter", name := "reset", desc := "()V" } : Jvm.MethodName) ({ cls := "com/example/farcall/farcall/XdrWriter", name := "reset", desc := "()V" } : Jvm.MethodName)).before a0 Z = true := hw _ (List.mem_of_getElem? (i := 68) rfl)
theorem w69 {Z : State} {a0 : Array Value} (hw : ∀ d ∈ tables_1, d.before a0 Z = true) : (Jvm.Cond.code ({ cls := "com/example/farcall/farcall/XdrWriter", name := "reset", desc := "()V" } : Jvm.MethodName) prog_55_method_20_code (1 : Nat) (Option.none : Option Jvm.ClassFile.FieldType)).before a0 Z = true := hw _ (List.mem_of_getElem? (i := 69) rfl)
theorem d_min_0 : decode jdk_29_method_69_code 0 = .ok (.iload_n 0, 1) := by decide +kernel
theorem d_min_1 : decode jdk_29_method_69_code 1 = .ok (.iload_n 1, 1) := by decide +kernel
theorem d_min_2 : decode jdk_29_method_69_code 2 = .ok (.if_icmp .gt 7, 3) := by decide +kernel
theorem d_min_9 : decode jdk_29_method_69_code 9 = .ok (.iload_n 1, 1) := by decide +kernel
theorem d_min_10 : decode jdk_29_method_69_code 10 = .ok (.ireturn, 1) := by decide +kernel
theorem d_min_5 : decode jdk_29_method_69_code 5 = .ok (.iload_n 0, 1) := by decide +kernel
theorem d_min_6 : decode jdk_29_method_69_code 6 = .ok (.goto 4, 3) := by decide +kernel
theorem d_init_0 : decode prog_55_method_1_code 0 = .ok (.aload_n 0, 1) := by decide +kernel
theorem d_init_1 : decode prog_55_method_1_code 1 = .ok (.invokespecial 1, 3) := by decide +kernel
theorem d_init_4 : decode prog_55_method_1_code 4 = .ok (.aload_n 0, 1) := by decide +kernel
theorem d_init_5 : decode prog_55_method_1_code 5 = .ok (.sipush 256, 3) := by decide +kernel
theorem d_init_8 : decode prog_55_method_1_code 8 = .ok (.newarray .byte, 2) := by decide +kernel
theorem d_init_10 : decode prog_55_method_1_code 10 = .ok (.putfield 9, 3) := by decide +kernel
theorem d_init_13 : decode prog_55_method_1_code 13 = .ok (.aload_n 0, 1) := by decide +kernel
theorem d_init_14 : decode prog_55_method_1_code 14 = .ok (.iconst 4, 1) := by decide +kernel
theorem d_init_15 : decode prog_55_method_1_code 15 = .ok (.putfield 13, 3) := by decide +kernel
theorem d_init_18 : decode prog_55_method_1_code 18 = .ok (.return_, 1) := by decide +kernel
theorem pn_init : plainName "com/example/farcall/farcall/XdrWriter" = true := by first | (simp [plainName, overriddenIn]; done) | decide +kernel
theorem d_pi4_0 : decode prog_55_method_21_code 0 = .ok (.aload_n 0, 1) := by decide +kernel
theorem d_pi4_1 : decode prog_55_method_21_code 1 = .ok (.getfield 9, 3) := by decide +kernel
theorem d_pi4_4 : decode prog_55_method_21_code 4 = .ok (.iload_n 1, 1) := by decide +kernel
theorem d_pi4_5 : decode prog_55_method_21_code 5 = .ok (.iload_n 2, 1) := by decide +kernel
theorem d_pi4_6 : decode prog_55_method_21_code 6 = .ok (.bipush 24, 2) := by decide +kernel
theorem d_pi4_8 : decode prog_55_method_21_code 8 = .ok (.iushr, 1) := by decide +kernel
theorem d_pi4_9 : decode prog_55_method_21_code 9 = .ok (.i2b, 1) := by decide +kernel
theorem d_pi4_10 : decode prog_55_method_21_code 10 = .ok (.bastore, 1) := by decide +kernel
theorem d_pi4_11 : decode prog_55_method_21_code 11 = .ok (.aload_n 0, 1) := by decide +kernel
theorem d_pi4_12 : decode prog_55_method_21_code 12 = .ok (.getfield 9, 3) := by decide +kernel
theorem d_pi4_15 : decode prog_55_method_21_code 15 = .ok (.iload_n 1, 1) := by decide +kernel
theorem d_pi4_16 : decode prog_55_method_21_code 16 = .ok (.iconst 1, 1) := by decide +kernel
theorem d_pi4_17 : decode prog_55_method_21_code 17 = .ok (.iadd, 1) := by decide +kernel
theorem d_pi4_18 : decode prog_55_method_21_code 18 = .ok (.iload_n 2, 1) := by decide +kernel
theorem d_pi4_19 : decode prog_55_method_21_code 19 = .ok (.bipush 16, 2) := by decide +kernel
theorem d_pi4_21 : decode prog_55_method_21_code 21 = .ok (.iushr, 1) := by decide +kernel
theorem d_pi4_22 : decode prog_55_method_21_code 22 = .ok (.i2b, 1) := by decide +kernel
theorem d_pi4_23 : decode prog_55_method_21_code 23 = .ok (.bastore, 1) := by decide +kernel
theorem d_pi4_24 : decode prog_55_method_21_code 24 = .ok (.aload_n 0, 1) := by decide +kernel
theorem d_pi4_25 : decode prog_55_method_21_code 25 = .ok (.getfield 9, 3) := by decide +kernel
theorem d_pi4_28 : decode prog_55_method_21_code 28 = .ok (.iload_n 1, 1) := by decide +kernel
theorem d_pi4_29 : decode prog_55_method_21_code 29 = .ok (.iconst 2, 1) := by decide +kernel
theorem d_pi4_30 : decode prog_55_method_21_code 30 = .ok (.iadd, 1) := by decide +kernel
theorem d_pi4_31 : decode prog_55_method_21_code 31 = .ok (.iload_n 2, 1) := by decide +kernel
theorem d_pi4_32 : decode prog_55_method_21_code 32 = .ok (.bipush 8, 2) := by decide +kernel
theorem d_pi4_34 : decode prog_55_method_21_code 34 = .ok (.iushr, 1) := by decide +kernel
theorem d_pi4_35 : decode prog_55_method_21_code 35 = .ok (.i2b, 1) := by decide +kernel
theorem d_pi4_36 : decode prog_55_method_21_code 36 = .ok (.bastore, 1) := by decide +kernel
theorem d_pi4_37 : decode prog_55_method_21_code 37 = .ok (.aload_n 0, 1) := by decide +kernel
theorem d_pi4_38 : decode prog_55_method_21_code 38 = .ok (.getfield 9, 3) := by decide +kernel
theorem d_pi4_41 : decode prog_55_method_21_code 41 = .ok (.iload_n 1, 1) := by decide +kernel
theorem d_pi4_42 : decode prog_55_method_21_code 42 = .ok (.iconst 3, 1) := by decide +kernel
theorem d_pi4_43 : decode prog_55_method_21_code 43 = .ok (.iadd, 1) := by decide +kernel
theorem d_pi4_44 : decode prog_55_method_21_code 44 = .ok (.iload_n 2, 1) := by decide +kernel
theorem d_pi4_45 : decode prog_55_method_21_code 45 = .ok (.i2b, 1) := by decide +kernel
theorem d_pi4_46 : decode prog_55_method_21_code 46 = .ok (.bastore, 1) := by decide +kernel
theorem d_pi4_47 : decode prog_55_method_21_code 47 = .ok (.return_, 1) := by decide +kernel
theorem pn_pi4 : plainName "com/example/farcall/farcall/XdrWriter" = true := by first | (simp [plainName, overriddenIn]; done) | decide +kernel
theorem d_er4_0 : decode prog_55_method_22_code 0 = .ok (.iload_n 1, 1) := by decide +kernel
theorem d_er4_1 : decode prog_55_method_22_code 1 = .ok (.aload_n 0, 1) := by decide +kernel
theorem d_er4_2 : decode prog_55_method_22_code 2 = .ok (.getfield 9, 3) := by decide +kernel
theorem d_er4_5 : decode prog_55_method_22_code 5 = .ok (.arraylength, 1) := by decide +kernel
theorem d_er4_6 : decode prog_55_method_22_code 6 = .ok (.aload_n 0, 1) := by decide +kernel
theorem d_er4_7 : decode prog_55_method_22_code 7 = .ok (.getfield 13, 3) := by decide +kernel
theorem d_er4_10 : decode prog_55_method_22_code 10 = .ok (.isub, 1) := by decide +kernel
theorem d_er4_11 : decode prog_55_method_22_code 11 = .ok (.if_icmp .le 34, 3) := by decide +kernel
theorem d_er4_45 : decode prog_55_method_22_code 45 = .ok (.return_, 1) := by decide +kernel
theorem pn_er4 : plainName "com/example/farcall/farcall/XdrWriter" = true := by first | (simp [plainName, overriddenIn]; done) | decide +kernel
theorem d_wi4_0 : decode prog_55_method_2_code 0 = .ok (.aload_n 0, 1) := by decide +kernel
theorem d_wi4_1 : decode prog_55_method_2_code 1 = .ok (.iconst 4, 1) := by decide +kernel
theorem d_wi4_2 : decode prog_55_method_2_code 2 = .ok (.invokevirtual 17, 3) := by decide +kernel
theorem pd_0 : parseMethodDescriptor "(I)V" = some ⟨[.int], none⟩ := by decide +kernel
theorem d_wi4_5 : decode prog_55_method_2_code 5 = .ok (.aload_n 0, 1) := by decide +kernel
theorem d_wi4_6 : decode prog_55_method_2_code 6 = .ok (.aload_n 0, 1) := by decide +kernel
theorem d_wi4_7 : decode prog_55_method_2_code 7 = .ok (.getfield 13, 3) := by decide +kernel
theorem d_wi4_10 : decode prog_55_method_2_code 10 = .ok (.iload_n 1, 1) := by decide +kernel
theorem d_wi4_11 : decode prog_55_method_2_code 11 = .ok (.invokevirtual 21, 3) := by decide +kernel
theorem pd_1 : parseMethodDescriptor "(II)V" = some ⟨[.int, .int], none⟩ := by decide +kernel
theorem d_wi4_14 : decode prog_55_method_2_code 14 = .ok (.aload_n 0, 1) := by decide +kernel
theorem d_wi4_15 : decode prog_55_method_2_code 15 = .ok (.dup, 1) := by decide +kernel
theorem d_wi4_16 : decode prog_55_method_2_code 16 = .ok (.getfield 13, 3) := by decide +kernel
theorem d_wi4_19 : decode prog_55_method_2_code 19 = .ok (.iconst 4, 1) := by decide +kernel
theorem d_wi4_20 : decode prog_55_method_2_code 20 = .ok (.iadd, 1) := by decide +kernel
theorem d_wi4_21 : decode prog_55_method_2_code 21 = .ok (.putfield 13, 3) := by decide +kernel
theorem d_wi4_24 : decode prog_55_method_2_code 24 = .ok (.return_, 1) := by decide +kernel
theorem pn_wi4 : plainName "com/example/farcall/farcall/XdrWriter" = true := by first | (simp [plainName, overriddenIn]; done) | decide +kernel
theorem d_pi8_0 : decode prog_55_method_21_code 0 = .ok (.aload_n 0, 1) := by decide +kernel
theorem d_pi8_1 : decode prog_55_method_21_code 1 = .ok (.getfield 9, 3) := by decide +kernel
theorem d_pi8_4 : decode prog_55_method_21_code 4 = .ok (.iload_n 1, 1) := by decide +kernel
theorem d_pi8_5 : decode prog_55_method_21_code 5 = .ok (.iload_n 2, 1) := by decide +kernel
theorem d_pi8_6 : decode prog_55_method_21_code 6 = .ok (.bipush 24, 2) := by decide +kernel
theorem d_pi8_8 : decode prog_55_method_21_code 8 = .ok (.iushr, 1) := by decide +kernel
theorem d_pi8_9 : decode prog_55_method_21_code 9 = .ok (.i2b, 1) := by decide +kernel
theorem d_pi8_10 : decode prog_55_method_21_code 10 = .ok (.bastore, 1) := by decide +kernel
theorem d_pi8_11 : decode prog_55_method_21_code 11 = .ok (.aload_n 0, 1) := by decide +kernel
theorem d_pi8_12 : decode prog_55_method_21_code 12 = .ok (.getfield 9, 3) := by decide +kernel
theorem d_pi8_15 : decode prog_55_method_21_code 15 = .ok (.iload_n 1, 1) := by decide +kernel
theorem d_pi8_16 : decode prog_55_method_21_code 16 = .ok (.iconst 1, 1) := by decide +kernel
theorem d_pi8_17 : decode prog_55_method_21_code 17 = .ok (.iadd, 1) := by decide +kernel
theorem d_pi8_18 : decode prog_55_method_21_code 18 = .ok (.iload_n 2, 1) := by decide +kernel
theorem d_pi8_19 : decode prog_55_method_21_code 19 = .ok (.bipush 16, 2) := by decide +kernel
theorem d_pi8_21 : decode prog_55_method_21_code 21 = .ok (.iushr, 1) := by decide +kernel
theorem d_pi8_22 : decode prog_55_method_21_code 22 = .ok (.i2b, 1) := by decide +kernel
theorem d_pi8_23 : decode prog_55_method_21_code 23 = .ok (.bastore, 1) := by decide +kernel
theorem d_pi8_24 : decode prog_55_method_21_code 24 = .ok (.aload_n 0, 1) := by decide +kernel
theorem d_pi8_25 : decode prog_55_method_21_code 25 = .ok (.getfield 9, 3) := by decide +kernel
theorem d_pi8_28 : decode prog_55_method_21_code 28 = .ok (.iload_n 1, 1) := by decide +kernel
theorem d_pi8_29 : decode prog_55_method_21_code 29 = .ok (.iconst 2, 1) := by decide +kernel
theorem d_pi8_30 : decode prog_55_method_21_code 30 = .ok (.iadd, 1) := by decide +kernel
theorem d_pi8_31 : decode prog_55_method_21_code 31 = .ok (.iload_n 2, 1) := by decide +kernel
theorem d_pi8_32 : decode prog_55_method_21_code 32 = .ok (.bipush 8, 2) := by decide +kernel
theorem d_pi8_34 : decode prog_55_method_21_code 34 = .ok (.iushr, 1) := by decide +kernel
theorem d_pi8_35 : decode prog_55_method_21_code 35 = .ok (.i2b, 1) := by decide +kernel
theorem d_pi8_36 : decode prog_55_method_21_code 36 = .ok (.bastore, 1) := by decide +kernel
theorem d_pi8_37 : decode prog_55_method_21_code 37 = .ok (.aload_n 0, 1) := by decide +kernel
theorem d_pi8_38 : decode prog_55_method_21_code 38 = .ok (.getfield 9, 3) := by decide +kernel
theorem d_pi8_41 : decode prog_55_method_21_code 41 = .ok (.iload_n 1, 1) := by decide +kernel
theorem d_pi8_42 : decode prog_55_method_21_code 42 = .ok (.iconst 3, 1) := by decide +kernel
theorem d_pi8_43 : decode prog_55_method_21_code 43 = .ok (.iadd, 1) := by decide +kernel
theorem d_pi8_44 : decode prog_55_method_21_code 44 = .ok (.iload_n 2, 1) := by decide +kernel
theorem d_pi8_45 : decode prog_55_method_21_code 45 = .ok (.i2b, 1) := by decide +kernel
theorem d_pi8_46 : decode prog_55_method_21_code 46 = .ok (.bastore, 1) := by decide +kernel
theorem d_pi8_47 : decode prog_55_method_21_code 47 = .ok (.return_, 1) := by decide +kernel
theorem pn_pi8 : plainName "com/example/farcall/farcall/XdrWriter" = true := by first | (simp [plainName, overriddenIn]; done) | decide +kernel
theorem d_er8_0 : decode prog_55_method_22_code 0 = .ok (.iload_n 1, 1) := by decide +kernel
theorem d_er8_1 : decode prog_55_method_22_code 1 = .ok (.aload_n 0, 1) := by decide +kernel
theorem d_er8_2 : decode prog_55_method_22_code 2 = .ok (.getfield 9, 3) := by decide +kernel
theorem d_er8_5 : decode prog_55_method_22_code 5 = .ok (.arraylength, 1) := by decide +kernel
theorem d_er8_6 : decode prog_55_method_22_code 6 = .ok (.aload_n 0, 1) := by decide +kernel
theorem d_er8_7 : decode prog_55_method_22_code 7 = .ok (.getfield 13, 3) := by decide +kernel
theorem d_er8_10 : decode prog_55_method_22_code 10 = .ok (.isub, 1) := by decide +kernel
theorem d_er8_11 : decode prog_55_method_22_code 11 = .ok (.if_icmp .le 34, 3) := by decide +kernel
theorem d_er8_45 : decode prog_55_method_22_code 45 = .ok (.return_, 1) := by decide +kernel
theorem pn_er8 : plainName "com/example/farcall/farcall/XdrWriter" = true := by first | (simp [plainName, overriddenIn]; done) | decide +kernel
theorem d_wi8_0 : decode prog_55_method_2_code 0 = .ok (.aload_n 0, 1) := by decide +kernel
theorem d_wi8_1 : decode prog_55_method_2_code 1 = .ok (.iconst 4, 1) := by decide +kernel
theorem d_wi8_2 : decode prog_55_method_2_code 2 = .ok (.invokevirtual 17, 3) := by decide +kernel
theorem d_wi8_5 : decode prog_55_method_2_code 5 = .ok (.aload_n 0, 1) := by decide +kernel
theorem d_wi8_6 : decode prog_55_method_2_code 6 = .ok (.aload_n 0, 1) := by decide +kernel
theorem d_wi8_7 : decode prog_55_method_2_code 7 = .ok (.getfield 13, 3) := by decide +kernel
theorem d_wi8_10 : decode prog_55_method_2_code 10 = .ok (.iload_n 1, 1) := by decide +kernel
theorem d_wi8_11 : decode prog_55_method_2_code 11 = .ok (.invokevirtual 21, 3) := by decide +kernel
theorem d_wi8_14 : decode prog_55_method_2_code 14 = .ok (.aload_n 0, 1) := by decide +kernel
theorem d_wi8_15 : decode prog_55_method_2_code 15 = .ok (.dup, 1) := by decide +kernel
theorem d_wi8_16 : decode prog_55_method_2_code 16 = .ok (.getfield 13, 3) := by decide +kernel
theorem d_wi8_19 : decode prog_55_method_2_code 19 = .ok (.iconst 4, 1) := by decide +kernel
theorem d_wi8_20 : decode prog_55_method_2_code 20 = .ok (.iadd, 1) := by decide +kernel
theorem d_wi8_21 : decode prog_55_method_2_code 21 = .ok (.putfield 13, 3) := by decide +kernel
theorem d_wi8_24 : decode prog_55_method_2_code 24 = .ok (.return_, 1) := by decide +kernel
theorem pn_wi8 : plainName "com/example/farcall/farcall/XdrWriter" = true := by first | (simp [plainName, overriddenIn]; done) | decide +kernel
theorem d_pi12_0 : decode prog_55_method_21_code 0 = .ok (.aload_n 0, 1) := by decide +kernel
theorem d_pi12_1 : decode prog_55_method_21_code 1 = .ok (.getfield 9, 3) := by decide +kernel
theorem d_pi12_4 : decode prog_55_method_21_code 4 = .ok (.iload_n 1, 1) := by decide +kernel
theorem d_pi12_5 : decode prog_55_method_21_code 5 = .ok (.iload_n 2, 1) := by decide +kernel
theorem d_pi12_6 : decode prog_55_method_21_code 6 = .ok (.bipush 24, 2) := by decide +kernel
theorem d_pi12_8 : decode prog_55_method_21_code 8 = .ok (.iushr, 1) := by decide +kernel
theorem d_pi12_9 : decode prog_55_method_21_code 9 = .ok (.i2b, 1) := by decide +kernel
theorem d_pi12_10 : decode prog_55_method_21_code 10 = .ok (.bastore, 1) := by decide +kernel
theorem d_pi12_11 : decode prog_55_method_21_code 11 = .ok (.aload_n 0, 1) := by decide +kernel
theorem d_pi12_12 : decode prog_55_method_21_code 12 = .ok (.getfield 9, 3) := by decide +kernel
theorem d_pi12_15 : decode prog_55_method_21_code 15 = .ok (.iload_n 1, 1) := by decide +kernel
theorem d_pi12_16 : decode prog_55_method_21_code 16 = .ok (.iconst 1, 1) := by decide +kernel
theorem d_pi12_17 : decode prog_55_method_21_code 17 = .ok (.iadd, 1) := by decide +kernel
theorem d_pi12_18 : decode prog_55_method_21_code 18 = .ok (.iload_n 2, 1) := by decide +kernel
theorem d_pi12_19 : decode prog_55_method_21_code 19 = .ok (.bipush 16, 2) := by decide +kernel
theorem d_pi12_21 : decode prog_55_method_21_code 21 = .ok (.iushr, 1) := by decide +kernel
theorem d_pi12_22 : decode prog_55_method_21_code 22 = .ok (.i2b, 1) := by decide +kernel
theorem d_pi12_23 : decode prog_55_method_21_code 23 = .ok (.bastore, 1) := by decide +kernel
theorem d_pi12_24 : decode prog_55_method_21_code 24 = .ok (.aload_n 0, 1) := by decide +kernel
theorem d_pi12_25 : decode prog_55_method_21_code 25 = .ok (.getfield 9, 3) := by decide +kernel
theorem d_pi12_28 : decode prog_55_method_21_code 28 = .ok (.iload_n 1, 1) := by decide +kernel
theorem d_pi12_29 : decode prog_55_method_21_code 29 = .ok (.iconst 2, 1) := by decide +kernel
theorem d_pi12_30 : decode prog_55_method_21_code 30 = .ok (.iadd, 1) := by decide +kernel
theorem d_pi12_31 : decode prog_55_method_21_code 31 = .ok (.iload_n 2, 1) := by decide +kernel
theorem d_pi12_32 : decode prog_55_method_21_code 32 = .ok (.bipush 8, 2) := by decide +kernel
theorem d_pi12_34 : decode prog_55_method_21_code 34 = .ok (.iushr, 1) := by decide +kernel
theorem d_pi12_35 : decode prog_55_method_21_code 35 = .ok (.i2b, 1) := by decide +kernel
theorem d_pi12_36 : decode prog_55_method_21_code 36 = .ok (.bastore, 1) := by decide +kernel
theorem d_pi12_37 : decode prog_55_method_21_code 37 = .ok (.aload_n 0, 1) := by decide +kernel
theorem d_pi12_38 : decode prog_55_method_21_code 38 = .ok (.getfield 9, 3) := by decide +kernel
theorem d_pi12_41 : decode prog_55_method_21_code 41 = .ok (.iload_n 1, 1) := by decide +kernel
theorem d_pi12_42 : decode prog_55_method_21_code 42 = .ok (.iconst 3, 1) := by decide +kernel
theorem d_pi12_43 : decode prog_55_method_21_code 43 = .ok (.iadd, 1) := by decide +kernel
theorem d_pi12_44 : decode prog_55_method_21_code 44 = .ok (.iload_n 2, 1) := by decide +kernel
theorem d_pi12_45 : decode prog_55_method_21_code 45 = .ok (.i2b, 1) := by decide +kernel
theorem d_pi12_46 : decode prog_55_method_21_code 46 = .ok (.bastore, 1) := by decide +kernel
theorem d_pi12_47 : decode prog_55_method_21_code 47 = .ok (.return_, 1) := by decide +kernel
theorem pn_pi12 : plainName "com/example/farcall/farcall/XdrWriter" = true := by first | (simp [plainName, overriddenIn]; done) | decide +kernel
theorem d_er12_0 : decode prog_55_method_22_code 0 = .ok (.iload_n 1, 1) := by decide +kernel
theorem d_er12_1 : decode prog_55_method_22_code 1 = .ok (.aload_n 0, 1) := by decide +kernel
theorem d_er12_2 : decode prog_55_method_22_code 2 = .ok (.getfield 9, 3) := by decide +kernel
theorem d_er12_5 : decode prog_55_method_22_code 5 = .ok (.arraylength, 1) := by decide +kernel
theorem d_er12_6 : decode prog_55_method_22_code 6 = .ok (.aload_n 0, 1) := by decide +kernel
theorem d_er12_7 : decode prog_55_method_22_code 7 = .ok (.getfield 13, 3) := by decide +kernel
theorem d_er12_10 : decode prog_55_method_22_code 10 = .ok (.isub, 1) := by decide +kernel
theorem d_er12_11 : decode prog_55_method_22_code 11 = .ok (.if_icmp .le 34, 3) := by decide +kernel
theorem d_er12_45 : decode prog_55_method_22_code 45 = .ok (.return_, 1) := by decide +kernel
theorem pn_er12 : plainName "com/example/farcall/farcall/XdrWriter" = true := by first | (simp [plainName, overriddenIn]; done) | decide +kernel
theorem d_wi12_0 : decode prog_55_method_2_code 0 = .ok (.aload_n 0, 1) := by decide +kernel
theorem d_wi12_1 : decode prog_55_method_2_code 1 = .ok (.iconst 4, 1) := by decide +kernel
theorem d_wi12_2 : decode prog_55_method_2_code 2 = .ok (.invokevirtual 17, 3) := by decide +kernel
theorem d_wi12_5 : decode prog_55_method_2_code 5 = .ok (.aload_n 0, 1) := by decide +kernel
theorem d_wi12_6 : decode prog_55_method_2_code 6 = .ok (.aload_n 0, 1) := by decide +kernel
theorem d_wi12_7 : decode prog_55_method_2_code 7 = .ok (.getfield 13, 3) := by decide +kernel
theorem d_wi12_10 : decode prog_55_method_2_code 10 = .ok (.iload_n 1, 1) := by decide +kernel
theorem d_wi12_11 : decode prog_55_method_2_code 11 = .ok (.invokevirtual 21, 3) := by decide +kernel
theorem d_wi12_14 : decode prog_55_method_2_code 14 = .ok (.aload_n 0, 1) := by decide +kernel
theorem d_wi12_15 : decode prog_55_method_2_code 15 = .ok (.dup, 1) := by decide +kernel
theorem d_wi12_16 : decode prog_55_method_2_code 16 = .ok (.getfield 13, 3) := by decide +kernel
theorem d_wi12_19 : decode prog_55_method_2_code 19 = .ok (.iconst 4, 1) := by decide +kernel
theorem d_wi12_20 : decode prog_55_method_2_code 20 = .ok (.iadd, 1) := by decide +kernel
theorem d_wi12_21 : decode prog_55_method_2_code 21 = .ok (.putfield 13, 3) := by decide +kernel
theorem d_wi12_24 : decode prog_55_method_2_code 24 = .ok (.return_, 1) := by decide +kernel
theorem pn_wi12 : plainName "com/example/farcall/farcall/XdrWriter" = true := by first | (simp [plainName, overriddenIn]; done) | decide +kernel
theorem d_wl4_0 : decode prog_55_method_3_code 0 = .ok (.aload_n 0, 1) := by decide +kernel
theorem d_wl4_1 : decode prog_55_method_3_code 1 = .ok (.lload_n 1, 1) := by decide +kernel
theorem d_wl4_2 : decode prog_55_method_3_code 2 = .ok (.bipush 32, 2) := by decide +kernel
theorem d_wl4_4 : decode prog_55_method_3_code 4 = .ok (.lushr, 1) := by decide +kernel
theorem d_wl4_5 : decode prog_55_method_3_code 5 = .ok (.l2i, 1) := by decide +kernel
theorem d_wl4_6 : decode prog_55_method_3_code 6 = .ok (.invokevirtual 25, 3) := by decide +kernel
theorem d_wl4_9 : decode prog_55_method_3_code 9 = .ok (.aload_n 0, 1) := by decide +kernel
theorem d_wl4_10 : decode prog_55_method_3_code 10 = .ok (.lload_n 1, 1) := by decide +kernel
theorem d_wl4_11 : decode prog_55_method_3_code 11 = .ok (.l2i, 1) := by decide +kernel
theorem d_wl4_12 : decode prog_55_method_3_code 12 = .ok (.invokevirtual 25, 3) := by decide +kernel
theorem d_wl4_15 : decode prog_55_method_3_code 15 = .ok (.return_, 1) := by decide +kernel
theorem pn_wl4 : plainName "com/example/farcall/farcall/XdrWriter" = true := by first | (simp [plainName, overriddenIn]; done) | decide +kernel
theorem d_wl8_0 : decode prog_55_method_3_code 0 = .ok (.aload_n 0, 1) := by decide +kernel
theorem d_wl8_1 : decode prog_55_method_3_code 1 = .ok (.lload_n 1, 1) := by decide +kernel
theorem d_wl8_2 : decode prog_55_method_3_code 2 = .ok (.bipush 32, 2) := by decide +kernel
theorem d_wl8_4 : decode prog_55_method_3_code 4 = .ok (.lushr, 1) := by decide +kernel
theorem d_wl8_5 : decode prog_55_method_3_code 5 = .ok (.l2i, 1) := by decide +kernel
theorem d_wl8_6 : decode prog_55_method_3_code 6 = .ok (.invokevirtual 25, 3) := by decide +kernel
theorem d_wl8_9 : decode prog_55_method_3_code 9 = .ok (.aload_n 0, 1) := by decide +kernel
theorem d_wl8_10 : decode prog_55_method_3_code 10 = .ok (.lload_n 1, 1) := by decide +kernel
theorem d_wl8_11 : decode prog_55_method_3_code 11 = .ok (.l2i, 1) := by decide +kernel
theorem d_wl8_12 : decode prog_55_method_3_code 12 = .ok (.invokevirtual 25, 3) := by decide +kernel
theorem d_wl8_15 : decode prog_55_method_3_code 15 = .ok (.return_, 1) := by decide +kernel
theorem pn_wl8 : plainName "com/example/farcall/farcall/XdrWriter" = true := by first | (simp [plainName, overriddenIn]; done) | decide +kernel
theorem d_rs_0 : decode prog_55_method_20_code 0 = .ok (.aload_n 0, 1) := by decide +kernel
theorem d_rs_1 : decode prog_55_method_20_code 1 = .ok (.iconst 4, 1) := by decide +kernel
theorem d_rs_2 : decode prog_55_method_20_code 2 = .ok (.putfield 13, 3) := by decide +kernel
theorem d_rs_5 : decode prog_55_method_20_code 5 = .ok (.return_, 1) := by decide +kernel
theorem pn_rs : plainName "com/example/farcall/farcall/XdrWriter" = true := by first | (simp [plainName, overriddenIn]; done) | decide +kernel
theorem d_cl0_0 : decode jdk_65_method_131_code 0 = .ok (.iload_n 1, 1) := by decide +kernel
theorem d_cl0_1 : decode jdk_65_method_131_code 1 = .ok (.iload_n 0, 1) := by decide +kernel
theorem d_cl0_2 : decode jdk_65_method_131_code 2 = .ok (.if_icmp .ge 35, 3) := by decide +kernel
theorem d_cl0_37 : decode jdk_65_method_131_code 37 = .ok (.return_, 1) := by decide +kernel
theorem pn_cl0 : plainName "java/util/Arrays" = true := by first | (simp [plainName, overriddenIn]; done) | decide +kernel
theorem d_cb0_0 : decode jdk_65_method_133_code 0 = .ok (.iload_n 1, 1) := by decide +kernel
theorem d_cb0_1 : decode jdk_65_method_133_code 1 = .ok (.iload_n 2, 1) := by decide +kernel
theorem d_cb0_2 : decode jdk_65_method_133_code 2 = .ok (.invokestatic 343, 3) := by decide +kernel
theorem d_cb0_5 : decode jdk_65_method_133_code 5 = .ok (.iload_n 2, 1) := by decide +kernel
theorem d_cb0_6 : decode jdk_65_method_133_code 6 = .ok (.iload_n 1, 1) := by decide +kernel
theorem d_cb0_7 : decode jdk_65_method_133_code 7 = .ok (.isub, 1) := by decide +kernel
theorem d_cb0_8 : decode jdk_65_method_133_code 8 = .ok (.istore_n 3, 1) := by decide +kernel
theorem d_cb0_9 : decode jdk_65_method_133_code 9 = .ok (.iload_n 3, 1) := by decide +kernel
theorem d_cb0_10 : decode jdk_65_method_133_code 10 = .ok (.newarray .byte, 2) := by decide +kernel
theorem d_cb0_12 : decode jdk_65_method_133_code 12 = .ok (.astore 4, 2) := by decide +kernel
theorem d_cb0_14 : decode jdk_65_method_133_code 14 = .ok (.aload_n 0, 1) := by decide +kernel
theorem d_cb0_15 : decode jdk_65_method_133_code 15 = .ok (.iload_n 1, 1) := by decide +kernel
theorem d_cb0_16 : decode jdk_65_method_133_code 16 = .ok (.aload 4, 2) := by decide +kernel
theorem d_cb0_18 : decode jdk_65_method_133_code 18 = .ok (.iconst 0, 1) := by decide +kernel
theorem d_cb0_19 : decode jdk_65_method_133_code 19 = .ok (.aload_n 0, 1) := by decide +kernel
theorem d_cb0_20 : decode jdk_65_method_133_code 20 = .ok (.arraylength, 1) := by decide +kernel
theorem d_cb0_21 : decode jdk_65_method_133_code 21 = .ok (.iload_n 1, 1) := by decide +kernel
theorem d_cb0_22 : decode jdk_65_method_133_code 22 = .ok (.isub, 1) := by decide +kernel
theorem d_cb0_23 : decode jdk_65_method_133_code 23 = .ok (.iload_n 3, 1) := by decide +kernel
theorem d_cb0_24 : decode jdk_65_method_133_code 24 = .ok (.invokestatic 304, 3) := by decide +kernel
theorem pd_2 : parseMethodDescriptor "(II)I" = some ⟨[.int, .int], some .int⟩ := by decide +kernel
theorem d_cb0_27 : decode jdk_65_method_133_code 27 = .ok (.invokestatic 150, 3) := by decide +kernel
theorem d_cb0_30 : decode jdk_65_method_133_code 30 = .ok (.aload 4, 2) := by decide +kernel
theorem d_cb0_32 : decode jdk_65_method_133_code 32 = .ok (.areturn, 1) := by decide +kernel
theorem pn_cb0 : plainName "java/util/Arrays" = true := by first | (simp [plainName, overriddenIn]; done) | decide +kernel
theorem d_cr0_0 : decode jdk_65_method_132_code 0 = .ok (.iload_n 1, 1) := by decide +kernel
theorem d_cr0_1 : decode jdk_65_method_132_code 1 = .ok (.ifCond .ne 9, 3) := by decide +kernel
theorem d_cr0_10 : decode jdk_65_method_132_code 10 = .ok (.aload_n 0, 1) := by decide +kernel
theorem d_cr0_11 : decode jdk_65_method_132_code 11 = .ok (.iload_n 1, 1) := by decide +kernel
theorem d_cr0_12 : decode jdk_65_method_132_code 12 = .ok (.iload_n 2, 1) := by decide +kernel
theorem d_cr0_13 : decode jdk_65_method_132_code 13 = .ok (.invokestatic 339, 3) := by decide +kernel
theorem pd_3 : parseMethodDescriptor "([BII)[B" = some ⟨[(.array .byte), .int, .int], some (.array .byte)⟩ := by decide +kernel
theorem d_cr0_16 : decode jdk_65_method_132_code 16 = .ok (.areturn, 1) := by decide +kernel
theorem pn_cr0 : plainName "java/util/Arrays" = true := by first | (simp [plainName, overriddenIn]; done) | decide +kernel
theorem d_tb0_0 : decode prog_55_method_19_code 0 = .ok (.aload_n 0, 1) := by decide +kernel
theorem d_tb0_1 : decode prog_55_method_19_code 1 = .ok (.getfield 9, 3) := by decide +kernel
theorem d_tb0_4 : decode prog_55_method_19_code 4 = .ok (.iconst 4, 1) := by decide +kernel
theorem d_tb0_5 : decode prog_55_method_19_code 5 = .ok (.aload_n 0, 1) := by decide +kernel
theorem d_tb0_6 : decode prog_55_method_19_code 6 = .ok (.getfield 13, 3) := by decide +kernel
theorem d_tb0_9 : decode prog_55_method_19_code 9 = .ok (.invokestatic 136, 3) := by decide +kernel
theorem d_tb0_12 : decode prog_55_method_19_code 12 = .ok (.areturn, 1) := by decide +kernel
theorem pn_tb0 : plainName "com/example/farcall/farcall/XdrWriter" = true := by first | (simp [plainName, overriddenIn]; done) | decide +kernel
theorem d_cl1_0 : decode jdk_65_method_131_code 0 = .ok (.iload_n 1, 1) := by decide +kernel
theorem d_cl1_1 : decode jdk_65_method_131_code 1 = .ok (.iload_n 0, 1) := by decide +kernel
theorem d_cl1_2 : decode jdk_65_method_131_code 2 = .ok (.if_icmp .ge 35, 3) := by decide +kernel
theorem d_cl1_37 : decode jdk_65_method_131_code 37 = .ok (.return_, 1) := by decide +kernel
theorem pn_cl1 : plainName "java/util/Arrays" = true := by first | (simp [plainName, overriddenIn]; done) | decide +kernel
theorem d_cb1_0 : decode jdk_65_method_133_code 0 = .ok (.iload_n 1, 1) := by decide +kernel
theorem d_cb1_1 : decode jdk_65_method_133_code 1 = .ok (.iload_n 2, 1) := by decide +kernel
theorem d_cb1_2 : decode jdk_65_method_133_code 2 = .ok (.invokestatic 343, 3) := by decide +kernel
theorem d_cb1_5 : decode jdk_65_method_133_code 5 = .ok (.iload_n 2, 1) := by decide +kernel
theorem d_cb1_6 : decode jdk_65_method_133_code 6 = .ok (.iload_n 1, 1) := by decide +kernel
theorem d_cb1_7 : decode jdk_65_method_133_code 7 = .ok (.isub, 1) := by decide +kernel
theorem d_cb1_8 : decode jdk_65_method_133_code 8 = .ok (.istore_n 3, 1) := by decide +kernel
theorem d_cb1_9 : decode jdk_65_method_133_code 9 = .ok (.iload_n 3, 1) := by decide +kernel
theorem d_cb1_10 : decode jdk_65_method_133_code 10 = .ok (.newarray .byte, 2) := by decide +kernel
theorem d_cb1_12 : decode jdk_65_method_133_code 12 = .ok (.astore 4, 2) := by decide +kernel
theorem d_cb1_14 : decode jdk_65_method_133_code 14 = .ok (.aload_n 0, 1) := by decide +kernel
theorem d_cb1_15 : decode jdk_65_method_133_code 15 = .ok (.iload_n 1, 1) := by decide +kernel
theorem d_cb1_16 : decode jdk_65_method_133_code 16 = .ok (.aload 4, 2) := by decide +kernel
theorem d_cb1_18 : decode jdk_65_method_133_code 18 = .ok (.iconst 0, 1) := by decide +kernel
theorem d_cb1_19 : decode jdk_65_method_133_code 19 = .ok (.aload_n 0, 1) := by decide +kernel
theorem d_cb1_20 : decode jdk_65_method_133_code 20 = .ok (.arraylength, 1) := by decide +kernel
theorem d_cb1_21 : decode jdk_65_method_133_code 21 = .ok (.iload_n 1, 1) := by decide +kernel
theorem d_cb1_22 : decode jdk_65_method_133_code 22 = .ok (.isub, 1) := by decide +kernel
theorem d_cb1_23 : decode jdk_65_method_133_code 23 = .ok (.iload_n 3, 1) := by decide +kernel
theorem d_cb1_24 : decode jdk_65_method_133_code 24 = .ok (.invokestatic 304, 3) := by decide +kernel
theorem d_cb1_27 : decode jdk_65_method_133_code 27 = .ok (.invokestatic 150, 3) := by decide +kernel
theorem d_cb1_30 : decode jdk_65_method_133_code 30 = .ok (.aload 4, 2) := by decide +kernel
theorem d_cb1_32 : decode jdk_65_method_133_code 32 = .ok (.areturn, 1) := by decide +kernel
theorem pn_cb1 : plainName "java/util/Arrays" = true := by first | (simp [plainName, overriddenIn]; done) | decide +kernel
theorem d_cr1_0 : decode jdk_65_method_132_code 0 = .ok (.iload_n 1, 1) := by decide +kernel
theorem d_cr1_1 : decode jdk_65_method_132_code 1 = .ok (.ifCond .ne 9, 3) := by decide +kernel
theorem d_cr1_10 : decode jdk_65_method_132_code 10 = .ok (.aload_n 0, 1) := by decide +kernel
theorem d_cr1_11 : decode jdk_65_method_132_code 11 = .ok (.iload_n 1, 1) := by decide +kernel
theorem d_cr1_12 : decode jdk_65_method_132_code 12 = .ok (.iload_n 2, 1) := by decide +kernel
theorem d_cr1_13 : decode jdk_65_method_132_code 13 = .ok (.invokestatic 339, 3) := by decide +kernel
theorem d_cr1_16 : decode jdk_65_method_132_code 16 = .ok (.areturn, 1) := by decide +kernel
theorem pn_cr1 : plainName "java/util/Arrays" = true := by first | (simp [plainName, overriddenIn]; done) | decide +kernel
theorem d_tb1_0 : decode prog_55_method_19_code 0 = .ok (.aload_n 0, 1) := by decide +kernel
theorem d_tb1_1 : decode prog_55_method_19_code 1 = .ok (.getfield 9, 3) := by decide +kernel
theorem d_tb1_4 : decode prog_55_method_19_code 4 = .ok (.iconst 4, 1) := by decide +kernel
theorem d_tb1_5 : decode prog_55_method_19_code 5 = .ok (.aload_n 0, 1) := by decide +kernel
theorem d_tb1_6 : decode prog_55_method_19_code 6 = .ok (.getfield 13, 3) := by decide +kernel
theorem d_tb1_9 : decode prog_55_method_19_code 9 = .ok (.invokestatic 136, 3) := by decide +kernel
theorem d_tb1_12 : decode prog_55_method_19_code 12 = .ok (.areturn, 1) := by decide +kernel
theorem pn_tb1 : plainName "com/example/farcall/farcall/XdrWriter" = true := by first | (simp [plainName, overriddenIn]; done) | decide +kernel
theorem d_cl2_0 : decode jdk_65_method_131_code 0 = .ok (.iload_n 1, 1) := by decide +kernel
theorem d_cl2_1 : decode jdk_65_method_131_code 1 = .ok (.iload_n 0, 1) := by decide +kernel
theorem d_cl2_2 : decode jdk_65_method_131_code 2 = .ok (.if_icmp .ge 35, 3) := by decide +kernel
theorem d_cl2_37 : decode jdk_65_method_131_code 37 = .ok (.return_, 1) := by decide +kernel
theorem pn_cl2 : plainName "java/util/Arrays" = true := by first | (simp [plainName, overriddenIn]; done) | decide +kernel
theorem d_cb2_0 : decode jdk_65_method_133_code 0 = .ok (.iload_n 1, 1) := by decide +kernel
theorem d_cb2_1 : decode jdk_65_method_133_code 1 = .ok (.iload_n 2, 1) := by decide +kernel
theorem d_cb2_2 : decode jdk_65_method_133_code 2 = .ok (.invokestatic 343, 3) := by decide +kernel
theorem d_cb2_5 : decode jdk_65_method_133_code 5 = .ok (.iload_n 2, 1) := by decide +kernel
theorem d_cb2_6 : decode jdk_65_method_133_code 6 = .ok (.iload_n 1, 1) := by decide +kernel
theorem d_cb2_7 : decode jdk_65_method_133_code 7 = .ok (.isub, 1) := by decide +kernel
theorem d_cb2_8 : decode jdk_65_method_133_code 8 = .ok (.istore_n 3, 1) := by decide +kernel
theorem d_cb2_9 : decode jdk_65_method_133_code 9 = .ok (.iload_n 3, 1) := by decide +kernel
theorem d_cb2_10 : decode jdk_65_method_133_code 10 = .ok (.newarray .byte, 2) := by decide +kernel
theorem d_cb2_12 : decode jdk_65_method_133_code 12 = .ok (.astore 4, 2) := by decide +kernel
theorem d_cb2_14 : decode jdk_65_method_133_code 14 = .ok (.aload_n 0, 1) := by decide +kernel
theorem d_cb2_15 : decode jdk_65_method_133_code 15 = .ok (.iload_n 1, 1) := by decide +kernel
theorem d_cb2_16 : decode jdk_65_method_133_code 16 = .ok (.aload 4, 2) := by decide +kernel
theorem d_cb2_18 : decode jdk_65_method_133_code 18 = .ok (.iconst 0, 1) := by decide +kernel
theorem d_cb2_19 : decode jdk_65_method_133_code 19 = .ok (.aload_n 0, 1) := by decide +kernel
theorem d_cb2_20 : decode jdk_65_method_133_code 20 = .ok (.arraylength, 1) := by decide +kernel
theorem d_cb2_21 : decode jdk_65_method_133_code 21 = .ok (.iload_n 1, 1) := by decide +kernel
theorem d_cb2_22 : decode jdk_65_method_133_code 22 = .ok (.isub, 1) := by decide +kernel
theorem d_cb2_23 : decode jdk_65_method_133_code 23 = .ok (.iload_n 3, 1) := by decide +kernel
theorem d_cb2_24 : decode jdk_65_method_133_code 24 = .ok (.invokestatic 304, 3) := by decide +kernel
theorem d_cb2_27 : decode jdk_65_method_133_code 27 = .ok (.invokestatic 150, 3) := by decide +kernel
theorem d_cb2_30 : decode jdk_65_method_133_code 30 = .ok (.aload 4, 2) := by decide +kernel
theorem d_cb2_32 : decode jdk_65_method_133_code 32 = .ok (.areturn, 1) := by decide +kernel
theorem pn_cb2 : plainName "java/util/Arrays" = true := by first | (simp [plainName, overriddenIn]; done) | decide +kernel
theorem d_cr2_0 : decode jdk_65_method_132_code 0 = .ok (.iload_n 1, 1) := by decide +kernel
theorem d_cr2_1 : decode jdk_65_method_132_code 1 = .ok (.ifCond .ne 9, 3) := by decide +kernel
theorem d_cr2_10 : decode jdk_65_method_132_code 10 = .ok (.aload_n 0, 1) := by decide +kernel
theorem d_cr2_11 : decode jdk_65_method_132_code 11 = .ok (.iload_n 1, 1) := by decide +kernel
theorem d_cr2_12 : decode jdk_65_method_132_code 12 = .ok (.iload_n 2, 1) := by decide +kernel
theorem d_cr2_13 : decode jdk_65_method_132_code 13 = .ok (.invokestatic 339, 3) := by decide +kernel
theorem d_cr2_16 : decode jdk_65_method_132_code 16 = .ok (.areturn, 1) := by decide +kernel
theorem pn_cr2 : plainName "java/util/Arrays" = true := by first | (simp [plainName, overriddenIn]; done) | decide +kernel
theorem d_tb2_0 : decode prog_55_method_19_code 0 = .ok (.aload_n 0, 1) := by decide +kernel
theorem d_tb2_1 : decode prog_55_method_19_code 1 = .ok (.getfield 9, 3) := by decide +kernel
theorem d_tb2_4 : decode prog_55_method_19_code 4 = .ok (.iconst 4, 1) := by decide +kernel
theorem d_tb2_5 : decode prog_55_method_19_code 5 = .ok (.aload_n 0, 1) := by decide +kernel
theorem d_tb2_6 : decode prog_55_method_19_code 6 = .ok (.getfield 13, 3) := by decide +kernel
theorem d_tb2_9 : decode prog_55_method_19_code 9 = .ok (.invokestatic 136, 3) := by decide +kernel
theorem d_tb2_12 : decode prog_55_method_19_code 12 = .ok (.areturn, 1) := by decide +kernel
theorem pn_tb2 : plainName "com/example/farcall/farcall/XdrWriter" = true := by first | (simp [plainName, overriddenIn]; done) | decide +kernel
theorem d_cl3_0 : decode jdk_65_method_131_code 0 = .ok (.iload_n 1, 1) := by decide +kernel
theorem d_cl3_1 : decode jdk_65_method_131_code 1 = .ok (.iload_n 0, 1) := by decide +kernel
theorem d_cl3_2 : decode jdk_65_method_131_code 2 = .ok (.if_icmp .ge 35, 3) := by decide +kernel
theorem d_cl3_37 : decode jdk_65_method_131_code 37 = .ok (.return_, 1) := by decide +kernel
theorem pn_cl3 : plainName "java/util/Arrays" = true := by first | (simp [plainName, overriddenIn]; done) | decide +kernel
theorem d_cb3_0 : decode jdk_65_method_133_code 0 = .ok (.iload_n 1, 1) := by decide +kernel
theorem d_cb3_1 : decode jdk_65_method_133_code 1 = .ok (.iload_n 2, 1) := by decide +kernel
theorem d_cb3_2 : decode jdk_65_method_133_code 2 = .ok (.invokestatic 343, 3) := by decide +kernel
theorem d_cb3_5 : decode jdk_65_method_133_code 5 = .ok (.iload_n 2, 1) := by decide +kernel
theorem d_cb3_6 : decode jdk_65_method_133_code 6 = .ok (.iload_n 1, 1) := by decide +kernel
theorem d_cb3_7 : decode jdk_65_method_133_code 7 = .ok (.isub, 1) := by decide +kernel
theorem d_cb3_8 : decode jdk_65_method_133_code 8 = .ok (.istore_n 3, 1) := by decide +kernel
theorem d_cb3_9 : decode jdk_65_method_133_code 9 = .ok (.iload_n 3, 1) := by decide +kernel
theorem d_cb3_10 : decode jdk_65_method_133_code 10 = .ok (.newarray .byte, 2) := by decide +kernel
theorem d_cb3_12 : decode jdk_65_method_133_code 12 = .ok (.astore 4, 2) := by decide +kernel
theorem d_cb3_14 : decode jdk_65_method_133_code 14 = .ok (.aload_n 0, 1) := by decide +kernel
theorem d_cb3_15 : decode jdk_65_method_133_code 15 = .ok (.iload_n 1, 1) := by decide +kernel
theorem d_cb3_16 : decode jdk_65_method_133_code 16 = .ok (.aload 4, 2) := by decide +kernel
theorem d_cb3_18 : decode jdk_65_method_133_code 18 = .ok (.iconst 0, 1) := by decide +kernel
theorem d_cb3_19 : decode jdk_65_method_133_code 19 = .ok (.aload_n 0, 1) := by decide +kernel
theorem d_cb3_20 : decode jdk_65_method_133_code 20 = .ok (.arraylength, 1) := by decide +kernel
theorem d_cb3_21 : decode jdk_65_method_133_code 21 = .ok (.iload_n 1, 1) := by decide +kernel
theorem d_cb3_22 : decode jdk_65_method_133_code 22 = .ok (.isub, 1) := by decide +kernel
theorem d_cb3_23 : decode jdk_65_method_133_code 23 = .ok (.iload_n 3, 1) := by decide +kernel
theorem d_cb3_24 : decode jdk_65_method_133_code 24 = .ok (.invokestatic 304, 3) := by decide +kernel
theorem d_cb3_27 : decode jdk_65_method_133_code 27 = .ok (.invokestatic 150, 3) := by decide +kernel
theorem d_cb3_30 : decode jdk_65_method_133_code 30 = .ok (.aload 4, 2) := by decide +kernel
theorem d_cb3_32 : decode jdk_65_method_133_code 32 = .ok (.areturn, 1) := by decide +kernel
theorem pn_cb3 : plainName "java/util/Arrays" = true := by first | (simp [plainName, overriddenIn]; done) | decide +kernel
theorem d_cr3_0 : decode jdk_65_method_132_code 0 = .ok (.iload_n 1, 1) := by decide +kernel
theorem d_cr3_1 : decode jdk_65_method_132_code 1 = .ok (.ifCond .ne 9, 3) := by decide +kernel
theorem d_cr3_10 : decode jdk_65_method_132_code 10 = .ok (.aload_n 0, 1) := by decide +kernel
theorem d_cr3_11 : decode jdk_65_method_132_code 11 = .ok (.iload_n 1, 1) := by decide +kernel
theorem d_cr3_12 : decode jdk_65_method_132_code 12 = .ok (.iload_n 2, 1) := by decide +kernel
theorem d_cr3_13 : decode jdk_65_method_132_code 13 = .ok (.invokestatic 339, 3) := by decide +kernel
theorem d_cr3_16 : decode jdk_65_method_132_code 16 = .ok (.areturn, 1) := by decide +kernel
theorem pn_cr3 : plainName "java/util/Arrays" = true := by first | (simp [plainName, overriddenIn]; done) | decide +kernel
theorem d_tb3_0 : decode prog_55_method_19_code 0 = .ok (.aload_n 0, 1) := by decide +kernel
theorem d_tb3_1 : decode prog_55_method_19_code 1 = .ok (.getfield 9, 3) := by decide +kernel
theorem d_tb3_4 : decode prog_55_method_19_code 4 = .ok (.iconst 4, 1) := by decide +kernel
theorem d_tb3_5 : decode prog_55_method_19_code 5 = .ok (.aload_n 0, 1) := by decide +kernel
theorem d_tb3_6 : decode prog_55_method_19_code 6 = .ok (.getfield 13, 3) := by decide +kernel
theorem d_tb3_9 : decode prog_55_method_19_code 9 = .ok (.invokestatic 136, 3) := by decide +kernel
theorem d_tb3_12 : decode prog_55_method_19_code 12 = .ok (.areturn, 1) := by decide +kernel
theorem pn_tb3 : plainName "com/example/farcall/farcall/XdrWriter" = true := by first | (simp [plainName, overriddenIn]; done) | decide +kernel
theorem d_un0_0 : decode method_3_code 0 = .ok (.iconst 4, 1) := by decide +kernel
theorem d_un0_1 : decode method_3_code 1 = .ok (.iload_n 1, 1) := by decide +kernel
theorem d_un0_2 : decode method_3_code 2 = .ok (.imul, 1) := by decide +kernel
theorem d_un0_3 : decode method_3_code 3 = .ok (.istore_n 2, 1) := by decide +kernel
theorem d_un0_4 : decode method_3_code 4 = .ok (.aload_n 0, 1) := by decide +kernel
theorem d_un0_5 : decode method_3_code 5 = .ok (.iload_n 2, 1) := by decide +kernel
theorem d_un0_6 : decode method_3_code 6 = .ok (.baload, 1) := by decide +kernel
theorem d_un0_7 : decode method_3_code 7 = .ok (.sipush 255, 3) := by decide +kernel
theorem d_un0_10 : decode method_3_code 10 = .ok (.iand, 1) := by decide +kernel
theorem d_un0_11 : decode method_3_code 11 = .ok (.bipush 24, 2) := by decide +kernel
theorem d_un0_13 : decode method_3_code 13 = .ok (.ishl, 1) := by decide +kernel
theorem d_un0_14 : decode method_3_code 14 = .ok (.aload_n 0, 1) := by decide +kernel
theorem d_un0_15 : decode method_3_code 15 = .ok (.iload_n 2, 1) := by decide +kernel
theorem d_un0_16 : decode method_3_code 16 = .ok (.iconst 1, 1) := by decide +kernel
theorem d_un0_17 : decode method_3_code 17 = .ok (.iadd, 1) := by decide +kernel
theorem d_un0_18 : decode method_3_code 18 = .ok (.baload, 1) := by decide +kernel
theorem d_un0_19 : decode method_3_code 19 = .ok (.sipush 255, 3) := by decide +kernel
theorem d_un0_22 : decode method_3_code 22 = .ok (.iand, 1) := by decide +kernel
theorem d_un0_23 : decode method_3_code 23 = .ok (.bipush 16, 2) := by decide +kernel
theorem d_un0_25 : decode method_3_code 25 = .ok (.ishl, 1) := by decide +kernel
theorem d_un0_26 : decode method_3_code 26 = .ok (.ior, 1) := by decide +kernel
theorem d_un0_27 : decode method_3_code 27 = .ok (.aload_n 0, 1) := by decide +kernel
theorem d_un0_28 : decode method_3_code 28 = .ok (.iload_n 2, 1) := by decide +kernel
theorem d_un0_29 : decode method_3_code 29 = .ok (.iconst 2, 1) := by decide +kernel
theorem d_un0_30 : decode method_3_code 30 = .ok (.iadd, 1) := by decide +kernel
theorem d_un0_31 : decode method_3_code 31 = .ok (.baload, 1) := by decide +kernel
theorem d_un0_32 : decode method_3_code 32 = .ok (.sipush 255, 3) := by decide +kernel
theorem d_un0_35 : decode method_3_code 35 = .ok (.iand, 1) := by decide +kernel
theorem d_un0_36 : decode method_3_code 36 = .ok (.bipush 8, 2) := by decide +kernel
theorem d_un0_38 : decode method_3_code 38 = .ok (.ishl, 1) := by decide +kernel
theorem d_un0_39 : decode method_3_code 39 = .ok (.ior, 1) := by decide +kernel
theorem d_un0_40 : decode method_3_code 40 = .ok (.aload_n 0, 1) := by decide +kernel
theorem d_un0_41 : decode method_3_code 41 = .ok (.iload_n 2, 1) := by decide +kernel
theorem d_un0_42 : decode method_3_code 42 = .ok (.iconst 3, 1) := by decide +kernel
theorem d_un0_43 : decode method_3_code 43 = .ok (.iadd, 1) := by decide +kernel
theorem d_un0_44 : decode method_3_code 44 = .ok (.baload, 1) := by decide +kernel
theorem d_un0_45 : decode method_3_code 45 = .ok (.sipush 255, 3) := by decide +kernel
theorem d_un0_48 : decode method_3_code 48 = .ok (.iand, 1) := by decide +kernel
theorem d_un0_49 : decode method_3_code 49 = .ok (.ior, 1) := by decide +kernel
theorem d_un0_50 : decode method_3_code 50 = .ok (.ireturn, 1) := by decide +kernel
theorem pn_un0 : plainName "com/example/farcall/farcall/XdrWriterToByteArrayPinLaw" = true := by first | (simp [plainName, overriddenIn]; done) | decide +kernel
theorem d_un1_0 : decode method_3_code 0 = .ok (.iconst 4, 1) := by decide +kernel
theorem d_un1_1 : decode method_3_code 1 = .ok (.iload_n 1, 1) := by decide +kernel
theorem d_un1_2 : decode method_3_code 2 = .ok (.imul, 1) := by decide +kernel
theorem d_un1_3 : decode method_3_code 3 = .ok (.istore_n 2, 1) := by decide +kernel
theorem d_un1_4 : decode method_3_code 4 = .ok (.aload_n 0, 1) := by decide +kernel
theorem d_un1_5 : decode method_3_code 5 = .ok (.iload_n 2, 1) := by decide +kernel
theorem d_un1_6 : decode method_3_code 6 = .ok (.baload, 1) := by decide +kernel
theorem d_un1_7 : decode method_3_code 7 = .ok (.sipush 255, 3) := by decide +kernel
theorem d_un1_10 : decode method_3_code 10 = .ok (.iand, 1) := by decide +kernel
theorem d_un1_11 : decode method_3_code 11 = .ok (.bipush 24, 2) := by decide +kernel
theorem d_un1_13 : decode method_3_code 13 = .ok (.ishl, 1) := by decide +kernel
theorem d_un1_14 : decode method_3_code 14 = .ok (.aload_n 0, 1) := by decide +kernel
theorem d_un1_15 : decode method_3_code 15 = .ok (.iload_n 2, 1) := by decide +kernel
theorem d_un1_16 : decode method_3_code 16 = .ok (.iconst 1, 1) := by decide +kernel
theorem d_un1_17 : decode method_3_code 17 = .ok (.iadd, 1) := by decide +kernel
theorem d_un1_18 : decode method_3_code 18 = .ok (.baload, 1) := by decide +kernel
theorem d_un1_19 : decode method_3_code 19 = .ok (.sipush 255, 3) := by decide +kernel
theorem d_un1_22 : decode method_3_code 22 = .ok (.iand, 1) := by decide +kernel
theorem d_un1_23 : decode method_3_code 23 = .ok (.bipush 16, 2) := by decide +kernel
theorem d_un1_25 : decode method_3_code 25 = .ok (.ishl, 1) := by decide +kernel
theorem d_un1_26 : decode method_3_code 26 = .ok (.ior, 1) := by decide +kernel
theorem d_un1_27 : decode method_3_code 27 = .ok (.aload_n 0, 1) := by decide +kernel
theorem d_un1_28 : decode method_3_code 28 = .ok (.iload_n 2, 1) := by decide +kernel
theorem d_un1_29 : decode method_3_code 29 = .ok (.iconst 2, 1) := by decide +kernel
theorem d_un1_30 : decode method_3_code 30 = .ok (.iadd, 1) := by decide +kernel
theorem d_un1_31 : decode method_3_code 31 = .ok (.baload, 1) := by decide +kernel
theorem d_un1_32 : decode method_3_code 32 = .ok (.sipush 255, 3) := by decide +kernel
theorem d_un1_35 : decode method_3_code 35 = .ok (.iand, 1) := by decide +kernel
theorem d_un1_36 : decode method_3_code 36 = .ok (.bipush 8, 2) := by decide +kernel
theorem d_un1_38 : decode method_3_code 38 = .ok (.ishl, 1) := by decide +kernel
theorem d_un1_39 : decode method_3_code 39 = .ok (.ior, 1) := by decide +kernel
theorem d_un1_40 : decode method_3_code 40 = .ok (.aload_n 0, 1) := by decide +kernel
theorem d_un1_41 : decode method_3_code 41 = .ok (.iload_n 2, 1) := by decide +kernel
theorem d_un1_42 : decode method_3_code 42 = .ok (.iconst 3, 1) := by decide +kernel
theorem d_un1_43 : decode method_3_code 43 = .ok (.iadd, 1) := by decide +kernel
theorem d_un1_44 : decode method_3_code 44 = .ok (.baload, 1) := by decide +kernel
theorem d_un1_45 : decode method_3_code 45 = .ok (.sipush 255, 3) := by decide +kernel
theorem d_un1_48 : decode method_3_code 48 = .ok (.iand, 1) := by decide +kernel
theorem d_un1_49 : decode method_3_code 49 = .ok (.ior, 1) := by decide +kernel
theorem d_un1_50 : decode method_3_code 50 = .ok (.ireturn, 1) := by decide +kernel
theorem pn_un1 : plainName "com/example/farcall/farcall/XdrWriterToByteArrayPinLaw" = true := by first | (simp [plainName, overriddenIn]; done) | decide +kernel
theorem d_un2_0 : decode method_3_code 0 = .ok (.iconst 4, 1) := by decide +kernel
theorem d_un2_1 : decode method_3_code 1 = .ok (.iload_n 1, 1) := by decide +kernel
theorem d_un2_2 : decode method_3_code 2 = .ok (.imul, 1) := by decide +kernel
theorem d_un2_3 : decode method_3_code 3 = .ok (.istore_n 2, 1) := by decide +kernel
theorem d_un2_4 : decode method_3_code 4 = .ok (.aload_n 0, 1) := by decide +kernel
theorem d_un2_5 : decode method_3_code 5 = .ok (.iload_n 2, 1) := by decide +kernel
theorem d_un2_6 : decode method_3_code 6 = .ok (.baload, 1) := by decide +kernel
theorem d_un2_7 : decode method_3_code 7 = .ok (.sipush 255, 3) := by decide +kernel
theorem d_un2_10 : decode method_3_code 10 = .ok (.iand, 1) := by decide +kernel
theorem d_un2_11 : decode method_3_code 11 = .ok (.bipush 24, 2) := by decide +kernel
theorem d_un2_13 : decode method_3_code 13 = .ok (.ishl, 1) := by decide +kernel
theorem d_un2_14 : decode method_3_code 14 = .ok (.aload_n 0, 1) := by decide +kernel
theorem d_un2_15 : decode method_3_code 15 = .ok (.iload_n 2, 1) := by decide +kernel
theorem d_un2_16 : decode method_3_code 16 = .ok (.iconst 1, 1) := by decide +kernel
theorem d_un2_17 : decode method_3_code 17 = .ok (.iadd, 1) := by decide +kernel
theorem d_un2_18 : decode method_3_code 18 = .ok (.baload, 1) := by decide +kernel
theorem d_un2_19 : decode method_3_code 19 = .ok (.sipush 255, 3) := by decide +kernel
theorem d_un2_22 : decode method_3_code 22 = .ok (.iand, 1) := by decide +kernel
theorem d_un2_23 : decode method_3_code 23 = .ok (.bipush 16, 2) := by decide +kernel
theorem d_un2_25 : decode method_3_code 25 = .ok (.ishl, 1) := by decide +kernel
theorem d_un2_26 : decode method_3_code 26 = .ok (.ior, 1) := by decide +kernel
theorem d_un2_27 : decode method_3_code 27 = .ok (.aload_n 0, 1) := by decide +kernel
theorem d_un2_28 : decode method_3_code 28 = .ok (.iload_n 2, 1) := by decide +kernel
theorem d_un2_29 : decode method_3_code 29 = .ok (.iconst 2, 1) := by decide +kernel
theorem d_un2_30 : decode method_3_code 30 = .ok (.iadd, 1) := by decide +kernel
theorem d_un2_31 : decode method_3_code 31 = .ok (.baload, 1) := by decide +kernel
theorem d_un2_32 : decode method_3_code 32 = .ok (.sipush 255, 3) := by decide +kernel
theorem d_un2_35 : decode method_3_code 35 = .ok (.iand, 1) := by decide +kernel
theorem d_un2_36 : decode method_3_code 36 = .ok (.bipush 8, 2) := by decide +kernel
theorem d_un2_38 : decode method_3_code 38 = .ok (.ishl, 1) := by decide +kernel
theorem d_un2_39 : decode method_3_code 39 = .ok (.ior, 1) := by decide +kernel
theorem d_un2_40 : decode method_3_code 40 = .ok (.aload_n 0, 1) := by decide +kernel
theorem d_un2_41 : decode method_3_code 41 = .ok (.iload_n 2, 1) := by decide +kernel
theorem d_un2_42 : decode method_3_code 42 = .ok (.iconst 3, 1) := by decide +kernel
theorem d_un2_43 : decode method_3_code 43 = .ok (.iadd, 1) := by decide +kernel
theorem d_un2_44 : decode method_3_code 44 = .ok (.baload, 1) := by decide +kernel
theorem d_un2_45 : decode method_3_code 45 = .ok (.sipush 255, 3) := by decide +kernel
theorem d_un2_48 : decode method_3_code 48 = .ok (.iand, 1) := by decide +kernel
theorem d_un2_49 : decode method_3_code 49 = .ok (.ior, 1) := by decide +kernel
theorem d_un2_50 : decode method_3_code 50 = .ok (.ireturn, 1) := by decide +kernel
theorem pn_un2 : plainName "com/example/farcall/farcall/XdrWriterToByteArrayPinLaw" = true := by first | (simp [plainName, overriddenIn]; done) | decide +kernel
theorem d_ma0_0 : decode method_4_code 0 = .ok (.aload_n 0, 1) := by decide +kernel
theorem d_ma0_1 : decode method_4_code 1 = .ok (.arraylength, 1) := by decide +kernel
theorem d_ma0_2 : decode method_4_code 2 = .ok (.iconst 4, 1) := by decide +kernel
theorem d_ma0_3 : decode method_4_code 3 = .ok (.iload_n 2, 1) := by decide +kernel
theorem d_ma0_4 : decode method_4_code 4 = .ok (.imul, 1) := by decide +kernel
theorem d_ma0_5 : decode method_4_code 5 = .ok (.if_icmp .eq 5, 3) := by decide +kernel
theorem d_ma0_10 : decode method_4_code 10 = .ok (.iload_n 2, 1) := by decide +kernel
theorem d_ma0_11 : decode method_4_code 11 = .ok (.ifCond .le 16, 3) := by decide +kernel
theorem d_ma0_27 : decode method_4_code 27 = .ok (.iload_n 2, 1) := by decide +kernel
theorem d_ma0_28 : decode method_4_code 28 = .ok (.iconst 1, 1) := by decide +kernel
theorem d_ma0_29 : decode method_4_code 29 = .ok (.if_icmp .le 16, 3) := by decide +kernel
theorem d_ma0_45 : decode method_4_code 45 = .ok (.iload_n 2, 1) := by decide +kernel
theorem d_ma0_46 : decode method_4_code 46 = .ok (.iconst 2, 1) := by decide +kernel
theorem d_ma0_47 : decode method_4_code 47 = .ok (.if_icmp .le 16, 3) := by decide +kernel
theorem d_ma0_63 : decode method_4_code 63 = .ok (.iconst 1, 1) := by decide +kernel
theorem d_ma0_64 : decode method_4_code 64 = .ok (.ireturn, 1) := by decide +kernel
theorem pn_ma0 : plainName "com/example/farcall/farcall/XdrWriterToByteArrayPinLaw" = true := by first | (simp [plainName, overriddenIn]; done) | decide +kernel
theorem d_ma1_0 : decode method_4_code 0 = .ok (.aload_n 0, 1) := by decide +kernel
theorem d_ma1_1 : decode method_4_code 1 = .ok (.arraylength, 1) := by decide +kernel
theorem d_ma1_2 : decode method_4_code 2 = .ok (.iconst 4, 1) := by decide +kernel
theorem d_ma1_3 : decode method_4_code 3 = .ok (.iload_n 2, 1) := by decide +kernel
theorem d_ma1_4 : decode method_4_code 4 = .ok (.imul, 1) := by decide +kernel
theorem d_ma1_5 : decode method_4_code 5 = .ok (.if_icmp .eq 5, 3) := by decide +kernel
theorem d_ma1_10 : decode method_4_code 10 = .ok (.iload_n 2, 1) := by decide +kernel
theorem d_ma1_11 : decode method_4_code 11 = .ok (.ifCond .le 16, 3) := by decide +kernel
theorem d_ma1_14 : decode method_4_code 14 = .ok (.aload_n 0, 1) := by decide +kernel
theorem d_ma1_15 : decode method_4_code 15 = .ok (.iconst 0, 1) := by decide +kernel
theorem d_ma1_16 : decode method_4_code 16 = .ok (.invokestatic 33, 3) := by decide +kernel
theorem pd_4 : parseMethodDescriptor "([BI)I" = some ⟨[(.array .byte), .int], some .int⟩ := by decide +kernel
theorem d_ma1_19 : decode method_4_code 19 = .ok (.aload_n 1, 1) := by decide +kernel
theorem d_ma1_20 : decode method_4_code 20 = .ok (.iconst 0, 1) := by decide +kernel
theorem d_ma1_21 : decode method_4_code 21 = .ok (.iaload, 1) := by decide +kernel
theorem d_ma1_22 : decode method_4_code 22 = .ok (.if_icmp .eq 5, 3) := by decide +kernel
theorem d_ma1_27 : decode method_4_code 27 = .ok (.iload_n 2, 1) := by decide +kernel
theorem d_ma1_28 : decode method_4_code 28 = .ok (.iconst 1, 1) := by decide +kernel
theorem d_ma1_29 : decode method_4_code 29 = .ok (.if_icmp .le 16, 3) := by decide +kernel
theorem d_ma1_45 : decode method_4_code 45 = .ok (.iload_n 2, 1) := by decide +kernel
theorem d_ma1_46 : decode method_4_code 46 = .ok (.iconst 2, 1) := by decide +kernel
theorem d_ma1_47 : decode method_4_code 47 = .ok (.if_icmp .le 16, 3) := by decide +kernel
theorem d_ma1_63 : decode method_4_code 63 = .ok (.iconst 1, 1) := by decide +kernel
theorem d_ma1_64 : decode method_4_code 64 = .ok (.ireturn, 1) := by decide +kernel
theorem pn_ma1 : plainName "com/example/farcall/farcall/XdrWriterToByteArrayPinLaw" = true := by first | (simp [plainName, overriddenIn]; done) | decide +kernel
theorem d_ma2_0 : decode method_4_code 0 = .ok (.aload_n 0, 1) := by decide +kernel
theorem d_ma2_1 : decode method_4_code 1 = .ok (.arraylength, 1) := by decide +kernel
theorem d_ma2_2 : decode method_4_code 2 = .ok (.iconst 4, 1) := by decide +kernel
theorem d_ma2_3 : decode method_4_code 3 = .ok (.iload_n 2, 1) := by decide +kernel
theorem d_ma2_4 : decode method_4_code 4 = .ok (.imul, 1) := by decide +kernel
theorem d_ma2_5 : decode method_4_code 5 = .ok (.if_icmp .eq 5, 3) := by decide +kernel
theorem d_ma2_10 : decode method_4_code 10 = .ok (.iload_n 2, 1) := by decide +kernel
theorem d_ma2_11 : decode method_4_code 11 = .ok (.ifCond .le 16, 3) := by decide +kernel
theorem d_ma2_14 : decode method_4_code 14 = .ok (.aload_n 0, 1) := by decide +kernel
theorem d_ma2_15 : decode method_4_code 15 = .ok (.iconst 0, 1) := by decide +kernel
theorem d_ma2_16 : decode method_4_code 16 = .ok (.invokestatic 33, 3) := by decide +kernel
theorem d_ma2_19 : decode method_4_code 19 = .ok (.aload_n 1, 1) := by decide +kernel
theorem d_ma2_20 : decode method_4_code 20 = .ok (.iconst 0, 1) := by decide +kernel
theorem d_ma2_21 : decode method_4_code 21 = .ok (.iaload, 1) := by decide +kernel
theorem d_ma2_22 : decode method_4_code 22 = .ok (.if_icmp .eq 5, 3) := by decide +kernel
theorem d_ma2_27 : decode method_4_code 27 = .ok (.iload_n 2, 1) := by decide +kernel
theorem d_ma2_28 : decode method_4_code 28 = .ok (.iconst 1, 1) := by decide +kernel
theorem d_ma2_29 : decode method_4_code 29 = .ok (.if_icmp .le 16, 3) := by decide +kernel
theorem d_ma2_32 : decode method_4_code 32 = .ok (.aload_n 0, 1) := by decide +kernel
theorem d_ma2_33 : decode method_4_code 33 = .ok (.iconst 1, 1) := by decide +kernel
theorem d_ma2_34 : decode method_4_code 34 = .ok (.invokestatic 33, 3) := by decide +kernel
theorem d_ma2_37 : decode method_4_code 37 = .ok (.aload_n 1, 1) := by decide +kernel
theorem d_ma2_38 : decode method_4_code 38 = .ok (.iconst 1, 1) := by decide +kernel
theorem d_ma2_39 : decode method_4_code 39 = .ok (.iaload, 1) := by decide +kernel
theorem d_ma2_40 : decode method_4_code 40 = .ok (.if_icmp .eq 5, 3) := by decide +kernel
theorem d_ma2_45 : decode method_4_code 45 = .ok (.iload_n 2, 1) := by decide +kernel
theorem d_ma2_46 : decode method_4_code 46 = .ok (.iconst 2, 1) := by decide +kernel
theorem d_ma2_47 : decode method_4_code 47 = .ok (.if_icmp .le 16, 3) := by decide +kernel
theorem d_ma2_63 : decode method_4_code 63 = .ok (.iconst 1, 1) := by decide +kernel
theorem d_ma2_64 : decode method_4_code 64 = .ok (.ireturn, 1) := by decide +kernel
theorem pn_ma2 : plainName "com/example/farcall/farcall/XdrWriterToByteArrayPinLaw" = true := by first | (simp [plainName, overriddenIn]; done) | decide +kernel
theorem d_ma3_0 : decode method_4_code 0 = .ok (.aload_n 0, 1) := by decide +kernel
theorem d_ma3_1 : decode method_4_code 1 = .ok (.arraylength, 1) := by decide +kernel
theorem d_ma3_2 : decode method_4_code 2 = .ok (.iconst 4, 1) := by decide +kernel
theorem d_ma3_3 : decode method_4_code 3 = .ok (.iload_n 2, 1) := by decide +kernel
theorem d_ma3_4 : decode method_4_code 4 = .ok (.imul, 1) := by decide +kernel
theorem d_ma3_5 : decode method_4_code 5 = .ok (.if_icmp .eq 5, 3) := by decide +kernel
theorem d_ma3_10 : decode method_4_code 10 = .ok (.iload_n 2, 1) := by decide +kernel
theorem d_ma3_11 : decode method_4_code 11 = .ok (.ifCond .le 16, 3) := by decide +kernel
theorem d_ma3_14 : decode method_4_code 14 = .ok (.aload_n 0, 1) := by decide +kernel
theorem d_ma3_15 : decode method_4_code 15 = .ok (.iconst 0, 1) := by decide +kernel
theorem d_ma3_16 : decode method_4_code 16 = .ok (.invokestatic 33, 3) := by decide +kernel
theorem d_ma3_19 : decode method_4_code 19 = .ok (.aload_n 1, 1) := by decide +kernel
theorem d_ma3_20 : decode method_4_code 20 = .ok (.iconst 0, 1) := by decide +kernel
theorem d_ma3_21 : decode method_4_code 21 = .ok (.iaload, 1) := by decide +kernel
theorem d_ma3_22 : decode method_4_code 22 = .ok (.if_icmp .eq 5, 3) := by decide +kernel
theorem d_ma3_27 : decode method_4_code 27 = .ok (.iload_n 2, 1) := by decide +kernel
theorem d_ma3_28 : decode method_4_code 28 = .ok (.iconst 1, 1) := by decide +kernel
theorem d_ma3_29 : decode method_4_code 29 = .ok (.if_icmp .le 16, 3) := by decide +kernel
theorem d_ma3_32 : decode method_4_code 32 = .ok (.aload_n 0, 1) := by decide +kernel
theorem d_ma3_33 : decode method_4_code 33 = .ok (.iconst 1, 1) := by decide +kernel
theorem d_ma3_34 : decode method_4_code 34 = .ok (.invokestatic 33, 3) := by decide +kernel
theorem d_ma3_37 : decode method_4_code 37 = .ok (.aload_n 1, 1) := by decide +kernel
theorem d_ma3_38 : decode method_4_code 38 = .ok (.iconst 1, 1) := by decide +kernel
theorem d_ma3_39 : decode method_4_code 39 = .ok (.iaload, 1) := by decide +kernel
theorem d_ma3_40 : decode method_4_code 40 = .ok (.if_icmp .eq 5, 3) := by decide +kernel
theorem d_ma3_45 : decode method_4_code 45 = .ok (.iload_n 2, 1) := by decide +kernel
theorem d_ma3_46 : decode method_4_code 46 = .ok (.iconst 2, 1) := by decide +kernel
theorem d_ma3_47 : decode method_4_code 47 = .ok (.if_icmp .le 16, 3) := by decide +kernel
theorem d_ma3_50 : decode method_4_code 50 = .ok (.aload_n 0, 1) := by decide +kernel
theorem d_ma3_51 : decode method_4_code 51 = .ok (.iconst 2, 1) := by decide +kernel
theorem d_ma3_52 : decode method_4_code 52 = .ok (.invokestatic 33, 3) := by decide +kernel
theorem d_ma3_55 : decode method_4_code 55 = .ok (.aload_n 1, 1) := by decide +kernel
theorem d_ma3_56 : decode method_4_code 56 = .ok (.iconst 2, 1) := by decide +kernel
theorem d_ma3_57 : decode method_4_code 57 = .ok (.iaload, 1) := by decide +kernel
theorem d_ma3_58 : decode method_4_code 58 = .ok (.if_icmp .eq 5, 3) := by decide +kernel
theorem d_ma3_63 : decode method_4_code 63 = .ok (.iconst 1, 1) := by decide +kernel
theorem d_ma3_64 : decode method_4_code 64 = .ok (.ireturn, 1) := by decide +kernel
theorem pn_ma3 : plainName "com/example/farcall/farcall/XdrWriterToByteArrayPinLaw" = true := by first | (simp [plainName, overriddenIn]; done) | decide +kernel
theorem pd_5 : parseMethodDescriptor "()V" = some ⟨[], none⟩ := by decide +kernel
theorem pd_6 : parseMethodDescriptor "()[B" = some ⟨[], some (.array .byte)⟩ := by decide +kernel
theorem pd_7 : parseMethodDescriptor "([B[II)Z" = some ⟨[(.array .byte), (.array .int), .int], some .boolean⟩ := by decide +kernel
theorem pd_8 : parseMethodDescriptor "(J)V" = some ⟨[.long], none⟩ := by decide +kernel
theorem pn_law : plainName "com/example/farcall/farcall/XdrWriterToByteArrayPinLaw" = true := by first | (simp [plainName, overriddenIn]; done) | decide +kernel
def b3 (v : Int32) : Int32 := ((XT.ushr v (24 : Int32)).toInt8.toInt32).toInt8.toInt32
def b2 (v : Int32) : Int32 := ((XT.ushr v (16 : Int32)).toInt8.toInt32).toInt8.toInt32
def b1 (v : Int32) : Int32 := ((XT.ushr v (8 : Int32)).toInt8.toInt32).toInt8.toInt32
def b0 (v : Int32) : Int32 := (v.toInt8.toInt32).toInt8.toInt32
def put4 (g : Nat → Int32) (p : Nat) (v : Int32) : Nat → Int32 := updI (updI (updI (updI g p (b3 v)) (p + 1) (b2 v)) (p + 2) (b1 v)) (p + 3) (b0 v)
def unitV (g : Nat → Int32) (j : Nat) : Int32 := ((((g (4 * j) &&& (255 : Int32)) <<< ((24 : Int32) &&& 31)) ||| ((g (4 * j + 1) &&& (255 : Int32)) <<< ((16 : Int32) &&& 31))) ||| ((g (4 * j + 2) &&& (255 : Int32)) <<< ((8 : Int32) &&& 31))) ||| (g (4 * j + 3) &&& (255 : Int32))
def okB (g : Nat → Int32) : Prop := ∀ i, fits .byte (.int (g i)) = true
theorem okB_upd {g : Nat → Int32} {p : Nat} {x : Int32} (h : okB g) : okB (updI g p x.toInt8.toInt32) := fun i => by
  unfold updI; split
  · exact fits_nar_byte x
  · exact h i
theorem okB_put {g : Nat → Int32} {p : Nat} {v : Int32} (h : okB g) : okB (put4 g p v) := okB_upd (okB_upd (okB_upd (okB_upd h)))
theorem okB0 : okB (fun _ => 0) := fun _ => rfl
theorem byte_and (x : Int32) : (x.toInt8.toInt32).toInt8.toInt32 &&& (255 : Int32) = x &&& (255 : Int32) := by
  apply Int32.toBitVec_inj.mp
  have hm : ∀ i, i < 32 → (255#32).getLsbD i = decide (i < 8) := by decide
  apply BitVec.eq_of_getLsbD_eq
  intro i hi
  show ((((x.toBitVec.signExtend 8).signExtend 32).signExtend 8).signExtend 32 &&& 255#32).getLsbD i = (x.toBitVec &&& 255#32).getLsbD i
  simp only [BitVec.getLsbD_and, hm i hi, BitVec.getLsbD_signExtend]
  by_cases h : i < 8
  · simp [h, hi]
  · simp [h]
theorem bv_join (v : BitVec 32) : ((((((v >>> 24) &&& 255#32) <<< 24) ||| (((v >>> 16) &&& 255#32) <<< 16)) ||| (((v >>> 8) &&& 255#32) <<< 8)) ||| (v &&& 255#32)) = v := by
  have hm : ∀ i, i < 32 → (255#32).getLsbD i = decide (i < 8) := by decide
  apply BitVec.eq_of_getLsbD_eq
  intro i hi
  simp only [BitVec.getLsbD_or, BitVec.getLsbD_shiftLeft, BitVec.getLsbD_and, BitVec.getLsbD_ushiftRight, hm i hi, hm (i - 24) (by omega), hm (i - 16) (by omega), hm (i - 8) (by omega), hi]
  by_cases h1 : i < 8
  · have h2 : i < 16 := by omega
    have h3 : i < 24 := by omega
    simp [h1, h2, h3]
  · by_cases h2 : i < 16
    · have h3 : i < 24 := by omega
      have h4 : i - 8 < 8 := by omega
      have h5 : 8 + (i - 8) = i := by omega
      simp [h1, h2, h3, h4, h5]
    · by_cases h3 : i < 24
      · have h4 : i - 16 < 8 := by omega
        have h5 : 16 + (i - 16) = i := by omega
        have h6 : ¬ i - 8 < 8 := by omega
        simp [h1, h2, h3, h4, h5, h6]
      · have h4 : i - 24 < 8 := by omega
        have h5 : 24 + (i - 24) = i := by omega
        have h6 : ¬ i - 8 < 8 := by omega
        have h7 : ¬ i - 16 < 8 := by omega
        simp [h1, h2, h3, h4, h5, h6, h7]
theorem unit_eq (v : Int32) : ((((b3 v &&& (255 : Int32)) <<< ((24 : Int32) &&& 31)) ||| ((b2 v &&& (255 : Int32)) <<< ((16 : Int32) &&& 31))) ||| ((b1 v &&& (255 : Int32)) <<< ((8 : Int32) &&& 31))) ||| (b0 v &&& (255 : Int32)) = v := by
  unfold b3 b2 b1 b0
  rw [byte_and, byte_and, byte_and, byte_and]
  apply Int32.toBitVec_inj.mp
  exact bv_join v.toBitVec
theorem hi_eq (q : Int64) : (XT.ushrL q (32 : Int32)).toInt32 = (q >>> ((32 : Int32).toInt64 &&& 63)).toInt32 := by
  apply Int32.toBitVec_inj.mp
  show (q.toBitVec >>> 32).signExtend 32 = (q.toBitVec.sshiftRight 32).signExtend 32
  apply BitVec.eq_of_getLsbD_eq
  intro i hi
  have h1 : i < 64 := by omega
  have h2 : 32 + i < 64 := by omega
  simp only [BitVec.getLsbD_signExtend, BitVec.getLsbD_ushiftRight, BitVec.getLsbD_sshiftRight, hi, h1, h2, decide_true, Bool.true_and, if_true, Nat.not_le.mpr h1, decide_false, Bool.not_false]
def F_min (p0 : Int32) (p1 : Int32) : Int32 := (if p1 < p0 then p1 else p0)
def Q_min (p0 : Int32) (p1 : Int32) (h0 : Heap) (v : Option Value) (h : Heap) (L : List Loc) : Prop := v = some (.int (F_min p0 p1)) ∧ L = [] ∧ h = h0
theorem ef_min (m : MethodId) (x0 : Int32) (x1 : Int32) : entryFrame m #[(.int x0), (.int x1)] 2 = mkF m 0 #[.val (.int x0), .val (.int x1)] [] := by first | (simp [entryFrame, mkF, argsToLocals, Value.category]; done) | rfl
set_option maxRecDepth 65536 in
set_option maxHeartbeats 40000000 in
theorem rm_min (l : Launch) (Z : State) (a0 : Array Value) (hw : ∀ d ∈ tables_1, d.before a0 Z = true) (p0 : Int32) (p1 : Int32) (h0 : Heap)  :
    Met l Z (⟨"java/lang/Math", "min", "(II)I"⟩ : MethodName) jdk_29_method_69_code 2 (Option.some Jvm.ClassFile.FieldType.int) [] ({ frames := 0, cells := 0, slots := 0, locals := 0 } : Room) #[(.int p0), (.int p1)] h0 (Q_min p0 p1 h0) := by
  refine Met.of ((by decide +kernel)) ?_
  intro p e s m below meth c s₁ X0 hx hby hml hZ hown hnm e0 hret hlk
  refine Go.cast (ef_min m p0 p1) ?_
  show Go _ _ _ _ s₁ (mkF m 0 #[.val (.int p0), .val (.int p1)] []) _ _ _
  refine Go.iloadN X0 hx (hb hby d_min_0) rfl ?_
  show Go _ _ _ _ s₁ (mkF m 1 #[.val (.int p0), .val (.int p1)] [(.int p0)]) _ _ _
  refine Go.iloadN X0 hx (hb hby d_min_1) rfl ?_
  show Go _ _ _ _ s₁ (mkF m 2 #[.val (.int p0), .val (.int p1)] [(.int p1), (.int p0)]) _ _ _
  rcases Decidable.em (p1 < p0) with c1 | c1
  · refine Go.icmpYes X0 hx (hb hby d_min_2) (XT.ii_gt_t c1) (pc' := 9) (by decide) (by decide) ?_
    show Go _ _ _ _ s₁ (mkF m 9 #[.val (.int p0), .val (.int p1)] []) _ _ _
    refine Go.iloadN X0 hx (hb hby d_min_9) rfl ?_
    show Go _ _ _ _ s₁ (mkF m 10 #[.val (.int p0), .val (.int p1)] [(.int p1)]) _ _ _
    refine Go.retI X0 hx hlk hret (hb hby d_min_10) (by decide) (by decide) ?_
    rw [e0]
    exact ⟨by unfold F_min; rw [if_pos c1], rfl, rfl⟩
  · refine Go.icmpNo X0 hx (hb hby d_min_2) (XT.ii_gt_f c1) ?_
    show Go _ _ _ _ s₁ (mkF m 5 #[.val (.int p0), .val (.int p1)] []) _ _ _
    refine Go.iloadN X0 hx (hb hby d_min_5) rfl ?_
    show Go _ _ _ _ s₁ (mkF m 6 #[.val (.int p0), .val (.int p1)] [(.int p0)]) _ _ _
    refine Go.goto X0 hx (hb hby d_min_6) (pc' := 10) (by decide) (by decide) ?_
    show Go _ _ _ _ s₁ (mkF m 10 #[.val (.int p0), .val (.int p1)] [(.int p0)]) _ _ _
    refine Go.retI X0 hx hlk hret (hb hby d_min_10) (by decide) (by decide) ?_
    rw [e0]
    exact ⟨by unfold F_min; rw [if_neg c1], rfl, rfl⟩
def Q_init (Z : State) (a : Addr) (h0 : Heap) (n0 : Nat) (v : Option Value) (h : Heap) (L : List Loc) : Prop := ∃ (ab : Addr) (kb : ClassId), v = none ∧ Fr n0 L ∧ Keep h0 h [a] ∧ Exa Z h a "com/example/farcall/farcall/XdrWriter" ∧ n0 ≤ ab ∧ h0.size ≤ ab ∧ a ≠ ab ∧ Fld Z h a "com/example/farcall/farcall/XdrWriter" "bytes" "[B" (.ref ab) ∧ Fld Z h a "com/example/farcall/farcall/XdrWriter" "end" "I" (.int (4 : Int32)) ∧ Af Z h ab kb .byte 256 (fun i => Value.int ((fun _ => (0 : Int32)) i))
theorem ef_init (m : MethodId) (x0 : Addr) : entryFrame m #[(.ref x0)] 1 = mkF m 0 #[.val (.ref x0)] [] := by first | (simp [entryFrame, mkF, argsToLocals, Value.category]; done) | rfl
set_option maxRecDepth 65536 in
set_option maxHeartbeats 40000000 in
theorem rm_init (l : Launch) (Z : State) (a0 : Array Value) (hw : ∀ d ∈ tables_1, d.before a0 Z = true) (a : Addr) (h0 : Heap) (n0 : Nat) (Z0 : n0 ≤ h0.size) (f0 : Exa Z h0 a "com/example/farcall/farcall/XdrWriter") (f1 : n0 ≤ a) (f2 : Fld Z h0 a "com/example/farcall/farcall/XdrWriter" "bytes" "[B" .null) (f3 : Fld Z h0 a "com/example/farcall/farcall/XdrWriter" "end" "I" (.int (0 : Int32))) :
    Met l Z (⟨"com/example/farcall/farcall/XdrWriter", "<init>", "()V"⟩ : MethodName) prog_55_method_1_code 1 none [] ({ frames := 1, cells := 1, slots := 256, locals := 12 } : Room) #[(.ref a)] h0 (Q_init Z a h0 n0) := by
  refine Met.of (plainFor_of_name pn_init) ?_
  intro p e s m below meth c s₁ X0 hx hby hml hZ hown hnm e0 hret hlk
  refine Go.cast (ef_init m a) ?_
  show Go _ _ _ _ s₁ (mkF m 0 #[.val (.ref a)] []) _ _ _
  have N0 := Fr.nil n0
  refine Go.aloadN X0 hx (hb hby d_init_0) rfl rfl ?_
  show Go _ _ _ _ s₁ (mkF m 1 #[.val (.ref a)] [(.ref a)]) _ _ _
  refine Go.initO (W := 0) X0 hx hZ hown (w7 hw) (w8 hw) (w9 hw) e0 (hb hby d_init_1) (by rw [hml]; rfl) (Nat.le_of_eq rfl) (by decide) (by decide) ?_
  intro T2 X2 e2
  show Go _ _ _ _ T2 (mkF m 4 #[.val (.ref a)] []) _ _ _
  refine Go.aloadN X2 hx (hb hby d_init_4) rfl rfl ?_
  show Go _ _ _ _ T2 (mkF m 5 #[.val (.ref a)] [(.ref a)]) _ _ _
  refine Go.sipush X2 hx (hb hby d_init_5) ?_
  show Go _ _ _ _ T2 (mkF m 8 #[.val (.ref a)] [(.int (256 : Int32)), (.ref a)]) _ _ _
  refine Go.newarray (aty := .byte) (cap := 256) X2 hx hZ (w10 hw) e2 (hb hby d_init_8) (by decide) (by decide) (by decide) (by decide) (by decide) ?_
  intro T3 h3 a3 k3 b3 X3 e3 E3 A3
  have g_a3 : n0 ≤ a3 := by rw [b3]; exact Z0
  have y_a3 : h0.size ≤ a3 := by rw [b3]; exact (Nat.le_refl _)
  have ne_a_a3 : a ≠ a3 := by rw [b3]; exact Nat.ne_of_lt f0.lt
  have Z3 : n0 ≤ h3.size := Nat.le_trans Z0 E3.1
  have B3 : h0.size ≤ h3.size := Nat.le_trans (Nat.le_refl _) E3.1
  show Go _ _ _ _ T3 (mkF m 10 #[.val (.ref a)] [(.ref a3), (.ref a)]) _ _ _
  refine Go.putF X3 hx hZ hown (w11 hw) Via.refl e3 (Fld.ext E3 f2) (Exa.ext E3 f0) (Or.inl (w12 hw)) (w2 hw) (ty := (.array .byte)) (by decide) rfl rfl (hb hby d_init_10) ?_
  intro T4 h4 X4 e4 W4
  have N4 := Fr.snoc X4 N0 f1
  have Z4 : n0 ≤ h4.size := by rw [Wr.size W4]; exact Z3
  have B4 : h0.size ≤ h4.size := by rw [Wr.size W4]; exact B3
  show Go _ _ _ _ T4 (mkF m 13 #[.val (.ref a)] []) _ _ _
  refine Go.aloadN X4 hx (hb hby d_init_13) rfl rfl ?_
  show Go _ _ _ _ T4 (mkF m 14 #[.val (.ref a)] [(.ref a)]) _ _ _
  refine Go.iconst X4 hx (hb hby d_init_14) ?_
  show Go _ _ _ _ T4 (mkF m 15 #[.val (.ref a)] [(.int (4 : Int32)), (.ref a)]) _ _ _
  have F5 := (Fld.other W4 (Fld.ext E3 f3) (Or.inr (slot_ne (a0 := a0) (Or.inl (w14 hw)) (Or.inl (w12 hw)) (t := .int) (t' := (.array .byte)) (by decide) (by decide) (by decide))))
  refine Go.putF X4 hx hZ hown (w13 hw) Via.refl e4 F5 (Exa.wr W4 (Exa.ext E3 f0)) (Or.inl (w14 hw)) (w2 hw) (ty := .int) (by decide) rfl rfl (hb hby d_init_15) ?_
  intro T6 h6 X6 e6 W6
  have N6 := Fr.snoc X6 N4 f1
  have Z6 : n0 ≤ h6.size := by rw [Wr.size W6]; exact Z4
  have B6 : h0.size ≤ h6.size := by rw [Wr.size W6]; exact B4
  show Go _ _ _ _ T6 (mkF m 18 #[.val (.ref a)] []) _ _ _
  refine Go.ret0 X6 hx hlk hret (hb hby d_init_18) (by decide) (by decide) ?_
  rw [e6]
  have F7 := (Fld.other W6 (Fld.same W4 (Fld.ext E3 f2)) (Or.inr (slot_ne (a0 := a0) (Or.inl (w12 hw)) (Or.inl (w14 hw)) (t := (.array .byte)) (t' := .int) (by decide) (by decide) (by decide))))
  have F8 := (Af.other W6 (Af.other W4 A3 (Ne.symm ne_a_a3)) (Ne.symm ne_a_a3))
  exact ⟨a3, k3, rfl, N6, (Keep.wr (Keep.wr (Keep.ext (Keep.refl _ _) E3) W4 (Or.inl (List.mem_of_getElem? (i := 0) rfl))) W6 (Or.inl (List.mem_of_getElem? (i := 0) rfl))), (Exa.wr W6 (Exa.wr W4 (Exa.ext E3 f0))), g_a3, y_a3, ne_a_a3, F7, (Fld.same W6 F5), F8⟩
def Q_pi4 (Z : State) (a : Addr) (p2 : Int32) (ab : Addr) (kb : ClassId) (g : Nat → Int32) (h0 : Heap) (n0 : Nat) (v : Option Value) (h : Heap) (L : List Loc) : Prop := v = none ∧ Fr n0 L ∧ Keep h0 h [ab] ∧ Af Z h ab kb .byte 256 (fun i => Value.int ((put4 g 4 p2) i))
theorem ef_pi4 (m : MethodId) (x0 : Addr) (x1 : Int32) (x2 : Int32) : entryFrame m #[(.ref x0), (.int x1), (.int x2)] 3 = mkF m 0 #[.val (.ref x0), .val (.int x1), .val (.int x2)] [] := by first | (simp [entryFrame, mkF, argsToLocals, Value.category]; done) | rfl
set_option maxRecDepth 65536 in
set_option maxHeartbeats 40000000 in
theorem rm_pi4 (l : Launch) (Z : State) (a0 : Array Value) (hw : ∀ d ∈ tables_1, d.before a0 Z = true) (a : Addr) (p2 : Int32) (ab : Addr) (kb : ClassId) (g : Nat → Int32) (h0 : Heap) (n0 : Nat) (Z0 : n0 ≤ h0.size) (f0 : Exa Z h0 a "com/example/farcall/farcall/XdrWriter") (f1 : n0 ≤ a) (f2 : n0 ≤ ab) (f3 : a ≠ ab) (f4 : Fld Z h0 a "com/example/farcall/farcall/XdrWriter" "bytes" "[B" (.ref ab)) (f5 : Af Z h0 ab kb .byte 256 (fun i => Value.int (g i))) :
    Met l Z (⟨"com/example/farcall/farcall/XdrWriter", "putInt", "(II)V"⟩ : MethodName) prog_55_method_21_code 3 none [] ({ frames := 0, cells := 0, slots := 0, locals := 0 } : Room) #[(.ref a), (.int (4 : Int32)), (.int p2)] h0 (Q_pi4 Z a p2 ab kb g h0 n0) := by
  refine Met.of (plainFor_of_name pn_pi4) ?_
  intro p e s m below meth c s₁ X0 hx hby hml hZ hown hnm e0 hret hlk
  refine Go.cast (ef_pi4 m a ((4 : Int32)) p2) ?_
  show Go _ _ _ _ s₁ (mkF m 0 #[.val (.ref a), .val (.int (4 : Int32)), .val (.int p2)] []) _ _ _
  have N0 := Fr.nil n0
  refine Go.aloadN X0 hx (hb hby d_pi4_0) rfl rfl ?_
  show Go _ _ _ _ s₁ (mkF m 1 #[.val (.ref a), .val (.int (4 : Int32)), .val (.int p2)] [(.ref a)]) _ _ _
  refine Go.getF X0 hx hZ hown (w11 hw) Via.refl e0 f4 (hb hby d_pi4_1) ?_
  intro T9 X9 e9
  show Go _ _ _ _ T9 (mkF m 4 #[.val (.ref a), .val (.int (4 : Int32)), .val (.int p2)] [(.ref ab)]) _ _ _
  refine Go.iloadN X9 hx (hb hby d_pi4_4) rfl ?_
  show Go _ _ _ _ T9 (mkF m 5 #[.val (.ref a), .val (.int (4 : Int32)), .val (.int p2)] [(.int (4 : Int32)), (.ref ab)]) _ _ _
  refine Go.iloadN X9 hx (hb hby d_pi4_5) rfl ?_
  show Go _ _ _ _ T9 (mkF m 6 #[.val (.ref a), .val (.int (4 : Int32)), .val (.int p2)] [(.int p2), (.int (4 : Int32)), (.ref ab)]) _ _ _
  refine Go.bipush X9 hx (hb hby d_pi4_6) ?_
  show Go _ _ _ _ T9 (mkF m 8 #[.val (.ref a), .val (.int (4 : Int32)), .val (.int p2)] [(.int (24 : Int32)), (.int p2), (.int (4 : Int32)), (.ref ab)]) _ _ _
  refine Go.iushr X9 hx (hb hby d_pi4_8) ?_
  show Go _ _ _ _ T9 (mkF m 9 #[.val (.ref a), .val (.int (4 : Int32)), .val (.int p2)] [(.int (XT.ushr p2 (24 : Int32))), (.int (4 : Int32)), (.ref ab)]) _ _ _
  refine Go.i2b X9 hx (hb hby d_pi4_9) ?_
  show Go _ _ _ _ T9 (mkF m 10 #[.val (.ref a), .val (.int (4 : Int32)), .val (.int p2)] [(.int (((XT.ushr p2 (24 : Int32))).toInt8.toInt32)), (.int (4 : Int32)), (.ref ab)]) _ _ _
  refine Go.bastoreB X9 hx hZ e9 f5 (by decide) (by decide) (hb hby d_pi4_10) ?_
  intro T10 h10 X10 e10 W10 A10
  have N10 := Fr.snoc X10 N0 f2
  have Z10 : n0 ≤ h10.size := by rw [Wr.size W10]; exact Z0
  have B10 : h0.size ≤ h10.size := by rw [Wr.size W10]; exact (Nat.le_refl _)
  have A11 : Af Z h10 ab kb .byte 256 (fun i => Value.int ((updI g 4 (((((XT.ushr p2 (24 : Int32))).toInt8.toInt32)).toInt8.toInt32)) i)) := Af.updI A10
  show Go _ _ _ _ T10 (mkF m 11 #[.val (.ref a), .val (.int (4 : Int32)), .val (.int p2)] []) _ _ _
  refine Go.aloadN X10 hx (hb hby d_pi4_11) rfl rfl ?_
  show Go _ _ _ _ T10 (mkF m 12 #[.val (.ref a), .val (.int (4 : Int32)), .val (.int p2)] [(.ref a)]) _ _ _
  refine Go.getF X10 hx hZ hown (w11 hw) Via.refl e10 (Fld.other W10 f4 (Or.inl f3)) (hb hby d_pi4_12) ?_
  intro T12 X12 e12
  show Go _ _ _ _ T12 (mkF m 15 #[.val (.ref a), .val (.int (4 : Int32)), .val (.int p2)] [(.ref ab)]) _ _ _
  refine Go.iloadN X12 hx (hb hby d_pi4_15) rfl ?_
  show Go _ _ _ _ T12 (mkF m 16 #[.val (.ref a), .val (.int (4 : Int32)), .val (.int p2)] [(.int (4 : Int32)), (.ref ab)]) _ _ _
  refine Go.iconst X12 hx (hb hby d_pi4_16) ?_
  show Go _ _ _ _ T12 (mkF m 17 #[.val (.ref a), .val (.int (4 : Int32)), .val (.int p2)] [(.int (1 : Int32)), (.int (4 : Int32)), (.ref ab)]) _ _ _
  refine Go.iadd X12 hx (hb hby d_pi4_17) ?_
  show Go _ _ _ _ T12 (mkF m 18 #[.val (.ref a), .val (.int (4 : Int32)), .val (.int p2)] [(.int (5 : Int32)), (.ref ab)]) _ _ _
  refine Go.iloadN X12 hx (hb hby d_pi4_18) rfl ?_
  show Go _ _ _ _ T12 (mkF m 19 #[.val (.ref a), .val (.int (4 : Int32)), .val (.int p2)] [(.int p2), (.int (5 : Int32)), (.ref ab)]) _ _ _
  refine Go.bipush X12 hx (hb hby d_pi4_19) ?_
  show Go _ _ _ _ T12 (mkF m 21 #[.val (.ref a), .val (.int (4 : Int32)), .val (.int p2)] [(.int (16 : Int32)), (.int p2), (.int (5 : Int32)), (.ref ab)]) _ _ _
  refine Go.iushr X12 hx (hb hby d_pi4_21) ?_
  show Go _ _ _ _ T12 (mkF m 22 #[.val (.ref a), .val (.int (4 : Int32)), .val (.int p2)] [(.int (XT.ushr p2 (16 : Int32))), (.int (5 : Int32)), (.ref ab)]) _ _ _
  refine Go.i2b X12 hx (hb hby d_pi4_22) ?_
  show Go _ _ _ _ T12 (mkF m 23 #[.val (.ref a), .val (.int (4 : Int32)), .val (.int p2)] [(.int (((XT.ushr p2 (16 : Int32))).toInt8.toInt32)), (.int (5 : Int32)), (.ref ab)]) _ _ _
  refine Go.bastoreB X12 hx hZ e12 A11 (by decide) (by decide) (hb hby d_pi4_23) ?_
  intro T13 h13 X13 e13 W13 A13
  have N13 := Fr.snoc X13 N10 f2
  have Z13 : n0 ≤ h13.size := by rw [Wr.size W13]; exact Z10
  have B13 : h0.size ≤ h13.size := by rw [Wr.size W13]; exact B10
  have A14 : Af Z h13 ab kb .byte 256 (fun i => Value.int ((updI (updI g 4 (((((XT.ushr p2 (24 : Int32))).toInt8.toInt32)).toInt8.toInt32)) 5 (((((XT.ushr p2 (16 : Int32))).toInt8.toInt32)).toInt8.toInt32)) i)) := Af.updI A13
  show Go _ _ _ _ T13 (mkF m 24 #[.val (.ref a), .val (.int (4 : Int32)), .val (.int p2)] []) _ _ _
  refine Go.aloadN X13 hx (hb hby d_pi4_24) rfl rfl ?_
  show Go _ _ _ _ T13 (mkF m 25 #[.val (.ref a), .val (.int (4 : Int32)), .val (.int p2)] [(.ref a)]) _ _ _
  have F15 := (Fld.other W13 (Fld.other W10 f4 (Or.inl f3)) (Or.inl f3))
  refine Go.getF X13 hx hZ hown (w11 hw) Via.refl e13 F15 (hb hby d_pi4_25) ?_
  intro T16 X16 e16
  show Go _ _ _ _ T16 (mkF m 28 #[.val (.ref a), .val (.int (4 : Int32)), .val (.int p2)] [(.ref ab)]) _ _ _
  refine Go.iloadN X16 hx (hb hby d_pi4_28) rfl ?_
  show Go _ _ _ _ T16 (mkF m 29 #[.val (.ref a), .val (.int (4 : Int32)), .val (.int p2)] [(.int (4 : Int32)), (.ref ab)]) _ _ _
  refine Go.iconst X16 hx (hb hby d_pi4_29) ?_
  show Go _ _ _ _ T16 (mkF m 30 #[.val (.ref a), .val (.int (4 : Int32)), .val (.int p2)] [(.int (2 : Int32)), (.int (4 : Int32)), (.ref ab)]) _ _ _
  refine Go.iadd X16 hx (hb hby d_pi4_30) ?_
  show Go _ _ _ _ T16 (mkF m 31 #[.val (.ref a), .val (.int (4 : Int32)), .val (.int p2)] [(.int (6 : Int32)), (.ref ab)]) _ _ _
  refine Go.iloadN X16 hx (hb hby d_pi4_31) rfl ?_
  show Go _ _ _ _ T16 (mkF m 32 #[.val (.ref a), .val (.int (4 : Int32)), .val (.int p2)] [(.int p2), (.int (6 : Int32)), (.ref ab)]) _ _ _
  refine Go.bipush X16 hx (hb hby d_pi4_32) ?_
  show Go _ _ _ _ T16 (mkF m 34 #[.val (.ref a), .val (.int (4 : Int32)), .val (.int p2)] [(.int (8 : Int32)), (.int p2), (.int (6 : Int32)), (.ref ab)]) _ _ _
  refine Go.iushr X16 hx (hb hby d_pi4_34) ?_
  show Go _ _ _ _ T16 (mkF m 35 #[.val (.ref a), .val (.int (4 : Int32)), .val (.int p2)] [(.int (XT.ushr p2 (8 : Int32))), (.int (6 : Int32)), (.ref ab)]) _ _ _
  refine Go.i2b X16 hx (hb hby d_pi4_35) ?_
  show Go _ _ _ _ T16 (mkF m 36 #[.val (.ref a), .val (.int (4 : Int32)), .val (.int p2)] [(.int (((XT.ushr p2 (8 : Int32))).toInt8.toInt32)), (.int (6 : Int32)), (.ref ab)]) _ _ _
  refine Go.bastoreB X16 hx hZ e16 A14 (by decide) (by decide) (hb hby d_pi4_36) ?_
  intro T17 h17 X17 e17 W17 A17
  have N17 := Fr.snoc X17 N13 f2
  have Z17 : n0 ≤ h17.size := by rw [Wr.size W17]; exact Z13
  have B17 : h0.size ≤ h17.size := by rw [Wr.size W17]; exact B13
  have A18 : Af Z h17 ab kb .byte 256 (fun i => Value.int ((updI (updI (updI g 4 (((((XT.ushr p2 (24 : Int32))).toInt8.toInt32)).toInt8.toInt32)) 5 (((((XT.ushr p2 (16 : Int32))).toInt8.toInt32)).toInt8.toInt32)) 6 (((((XT.ushr p2 (8 : Int32))).toInt8.toInt32)).toInt8.toInt32)) i)) := Af.updI A17
  show Go _ _ _ _ T17 (mkF m 37 #[.val (.ref a), .val (.int (4 : Int32)), .val (.int p2)] []) _ _ _
  refine Go.aloadN X17 hx (hb hby d_pi4_37) rfl rfl ?_
  show Go _ _ _ _ T17 (mkF m 38 #[.val (.ref a), .val (.int (4 : Int32)), .val (.int p2)] [(.ref a)]) _ _ _
  refine Go.getF X17 hx hZ hown (w11 hw) Via.refl e17 (Fld.other W17 F15 (Or.inl f3)) (hb hby d_pi4_38) ?_
  intro T19 X19 e19
  show Go _ _ _ _ T19 (mkF m 41 #[.val (.ref a), .val (.int (4 : Int32)), .val (.int p2)] [(.ref ab)]) _ _ _
  refine Go.iloadN X19 hx (hb hby d_pi4_41) rfl ?_
  show Go _ _ _ _ T19 (mkF m 42 #[.val (.ref a), .val (.int (4 : Int32)), .val (.int p2)] [(.int (4 : Int32)), (.ref ab)]) _ _ _
  refine Go.iconst X19 hx (hb hby d_pi4_42) ?_
  show Go _ _ _ _ T19 (mkF m 43 #[.val (.ref a), .val (.int (4 : Int32)), .val (.int p2)] [(.int (3 : Int32)), (.int (4 : Int32)), (.ref ab)]) _ _ _
  refine Go.iadd X19 hx (hb hby d_pi4_43) ?_
  show Go _ _ _ _ T19 (mkF m 44 #[.val (.ref a), .val (.int (4 : Int32)), .val (.int p2)] [(.int (7 : Int32)), (.ref ab)]) _ _ _
  refine Go.iloadN X19 hx (hb hby d_pi4_44) rfl ?_
  show Go _ _ _ _ T19 (mkF m 45 #[.val (.ref a), .val (.int (4 : Int32)), .val (.int p2)] [(.int p2), (.int (7 : Int32)), (.ref ab)]) _ _ _
  refine Go.i2b X19 hx (hb hby d_pi4_45) ?_
  show Go _ _ _ _ T19 (mkF m 46 #[.val (.ref a), .val (.int (4 : Int32)), .val (.int p2)] [(.int ((p2).toInt8.toInt32)), (.int (7 : Int32)), (.ref ab)]) _ _ _
  refine Go.bastoreB X19 hx hZ e19 A18 (by decide) (by decide) (hb hby d_pi4_46) ?_
  intro T20 h20 X20 e20 W20 A20
  have N20 := Fr.snoc X20 N17 f2
  have Z20 : n0 ≤ h20.size := by rw [Wr.size W20]; exact Z17
  have B20 : h0.size ≤ h20.size := by rw [Wr.size W20]; exact B17
  have A21 : Af Z h20 ab kb .byte 256 (fun i => Value.int ((updI (updI (updI (updI g 4 (((((XT.ushr p2 (24 : Int32))).toInt8.toInt32)).toInt8.toInt32)) 5 (((((XT.ushr p2 (16 : Int32))).toInt8.toInt32)).toInt8.toInt32)) 6 (((((XT.ushr p2 (8 : Int32))).toInt8.toInt32)).toInt8.toInt32)) 7 ((((p2).toInt8.toInt32)).toInt8.toInt32)) i)) := Af.updI A20
  show Go _ _ _ _ T20 (mkF m 47 #[.val (.ref a), .val (.int (4 : Int32)), .val (.int p2)] []) _ _ _
  refine Go.ret0 X20 hx hlk hret (hb hby d_pi4_47) (by decide) (by decide) ?_
  rw [e20]
  exact ⟨rfl, N20, (Keep.wr (Keep.wr (Keep.wr (Keep.wr (Keep.refl _ _) W10 (Or.inl (List.mem_of_getElem? (i := 0) rfl))) W13 (Or.inl (List.mem_of_getElem? (i := 0) rfl))) W17 (Or.inl (List.mem_of_getElem? (i := 0) rfl))) W20 (Or.inl (List.mem_of_getElem? (i := 0) rfl))), A21⟩
def Q_er4 (Z : State) (a : Addr) (ab : Addr) (kb : ClassId) (g : Nat → Int32) (h0 : Heap) (n0 : Nat) (v : Option Value) (h : Heap) (L : List Loc) : Prop := v = none ∧ Fr n0 L ∧ h = h0
theorem ef_er4 (m : MethodId) (x0 : Addr) (x1 : Int32) : entryFrame m #[(.ref x0), (.int x1)] 3 = mkF m 0 #[.val (.ref x0), .val (.int x1), .unset] [] := by first | (simp [entryFrame, mkF, argsToLocals, Value.category]; done) | rfl
set_option maxRecDepth 65536 in
set_option maxHeartbeats 40000000 in
theorem rm_er4 (l : Launch) (Z : State) (a0 : Array Value) (hw : ∀ d ∈ tables_1, d.before a0 Z = true) (a : Addr) (ab : Addr) (kb : ClassId) (g : Nat → Int32) (h0 : Heap) (n0 : Nat) (Z0 : n0 ≤ h0.size) (f0 : Exa Z h0 a "com/example/farcall/farcall/XdrWriter") (f1 : n0 ≤ a) (f2 : n0 ≤ ab) (f3 : a ≠ ab) (f4 : Fld Z h0 a "com/example/farcall/farcall/XdrWriter" "bytes" "[B" (.ref ab)) (f5 : Af Z h0 ab kb .byte 256 (fun i => Value.int (g i))) (f6 : Fld Z h0 a "com/example/farcall/farcall/XdrWriter" "end" "I" (.int (4 : Int32))) :
    Met l Z (⟨"com/example/farcall/farcall/XdrWriter", "ensureRoom", "(I)V"⟩ : MethodName) prog_55_method_22_code 3 none [] ({ frames := 0, cells := 0, slots := 0, locals := 0 } : Room) #[(.ref a), (.int (4 : Int32))] h0 (Q_er4 Z a ab kb g h0 n0) := by
  refine Met.of (plainFor_of_name pn_er4) ?_
  intro p e s m below meth c s₁ X0 hx hby hml hZ hown hnm e0 hret hlk
  refine Go.cast (ef_er4 m a ((4 : Int32))) ?_
  show Go _ _ _ _ s₁ (mkF m 0 #[.val (.ref a), .val (.int (4 : Int32)), .unset] []) _ _ _
  have N0 := Fr.nil n0
  refine Go.iloadN X0 hx (hb hby d_er4_0) rfl ?_
  show Go _ _ _ _ s₁ (mkF m 1 #[.val (.ref a), .val (.int (4 : Int32)), .unset] [(.int (4 : Int32))]) _ _ _
  refine Go.aloadN X0 hx (hb hby d_er4_1) rfl rfl ?_
  show Go _ _ _ _ s₁ (mkF m 2 #[.val (.ref a), .val (.int (4 : Int32)), .unset] [(.ref a), (.int (4 : Int32))]) _ _ _
  refine Go.getF X0 hx hZ hown (w11 hw) Via.refl e0 f4 (hb hby d_er4_2) ?_
  intro T22 X22 e22
  show Go _ _ _ _ T22 (mkF m 5 #[.val (.ref a), .val (.int (4 : Int32)), .unset] [(.ref ab), (.int (4 : Int32))]) _ _ _
  refine Go.alen X22 hx hZ e22 f5 (hb hby d_er4_5) ?_
  show Go _ _ _ _ T22 (mkF m 6 #[.val (.ref a), .val (.int (4 : Int32)), .unset] [(.int (256 : Int32)), (.int (4 : Int32))]) _ _ _
  refine Go.aloadN X22 hx (hb hby d_er4_6) rfl rfl ?_
  show Go _ _ _ _ T22 (mkF m 7 #[.val (.ref a), .val (.int (4 : Int32)), .unset] [(.ref a), (.int (256 : Int32)), (.int (4 : Int32))]) _ _ _
  refine Go.getF X22 hx hZ hown (w13 hw) Via.refl e22 f6 (hb hby d_er4_7) ?_
  intro T23 X23 e23
  show Go _ _ _ _ T23 (mkF m 10 #[.val (.ref a), .val (.int (4 : Int32)), .unset] [(.int (4 : Int32)), (.int (256 : Int32)), (.int (4 : Int32))]) _ _ _
  refine Go.isub X23 hx (hb hby d_er4_10) ?_
  show Go _ _ _ _ T23 (mkF m 11 #[.val (.ref a), .val (.int (4 : Int32)), .unset] [(.int (252 : Int32)), (.int (4 : Int32))]) _ _ _
  refine Go.icmpYes X23 hx (hb hby d_er4_11) (XT.ii_le_t (by decide)) (pc' := 45) (by decide) (by decide) ?_
  show Go _ _ _ _ T23 (mkF m 45 #[.val (.ref a), .val (.int (4 : Int32)), .unset] []) _ _ _
  refine Go.ret0 X23 hx hlk hret (hb hby d_er4_45) (by decide) (by decide) ?_
  rw [e23]
  exact ⟨rfl, N0, rfl⟩
def Q_wi4 (Z : State) (a : Addr) (p1 : Int32) (ab : Addr) (kb : ClassId) (g : Nat → Int32) (h0 : Heap) (n0 : Nat) (v : Option Value) (h : Heap) (L : List Loc) : Prop := v = none ∧ Fr n0 L ∧ Keep h0 h [a, ab] ∧ Exa Z h a "com/example/farcall/farcall/XdrWriter" ∧ Fld Z h a "com/example/farcall/farcall/XdrWriter" "bytes" "[B" (.ref ab) ∧ Fld Z h a "com/example/farcall/farcall/XdrWriter" "end" "I" (.int (8 : Int32)) ∧ Af Z h ab kb .byte 256 (fun i => Value.int ((put4 g 4 p1) i))
theorem ef_wi4 (m : MethodId) (x0 : Addr) (x1 : Int32) : entryFrame m #[(.ref x0), (.int x1)] 2 = mkF m 0 #[.val (.ref x0), .val (.int x1)] [] := by first | (simp [entryFrame, mkF, argsToLocals, Value.category]; done) | rfl
set_option maxRecDepth 65536 in
set_option maxHeartbeats 40000000 in
theorem rm_wi4 (l : Launch) (Z : State) (a0 : Array Value) (hw : ∀ d ∈ tables_1, d.before a0 Z = true) (a : Addr) (p1 : Int32) (ab : Addr) (kb : ClassId) (g : Nat → Int32) (h0 : Heap) (n0 : Nat) (Z0 : n0 ≤ h0.size) (f0 : Exa Z h0 a "com/example/farcall/farcall/XdrWriter") (f1 : n0 ≤ a) (f2 : n0 ≤ ab) (f3 : a ≠ ab) (f4 : Fld Z h0 a "com/example/farcall/farcall/XdrWriter" "bytes" "[B" (.ref ab)) (f5 : Af Z h0 ab kb .byte 256 (fun i => Value.int (g i))) (f6 : Fld Z h0 a "com/example/farcall/farcall/XdrWriter" "end" "I" (.int (4 : Int32))) :
    Met l Z (⟨"com/example/farcall/farcall/XdrWriter", "writeInt", "(I)V"⟩ : MethodName) prog_55_method_2_code 2 none [] ({ frames := 1, cells := 0, slots := 0, locals := 14 } : Room) #[(.ref a), (.int p1)] h0 (Q_wi4 Z a p1 ab kb g h0 n0) := by
  refine Met.of (plainFor_of_name pn_wi4) ?_
  intro p e s m below meth c s₁ X0 hx hby hml hZ hown hnm e0 hret hlk
  refine Go.cast (ef_wi4 m a p1) ?_
  show Go _ _ _ _ s₁ (mkF m 0 #[.val (.ref a), .val (.int p1)] []) _ _ _
  have N0 := Fr.nil n0
  refine Go.aloadN X0 hx (hb hby d_wi4_0) rfl rfl ?_
  show Go _ _ _ _ s₁ (mkF m 1 #[.val (.ref a), .val (.int p1)] [(.ref a)]) _ _ _
  refine Go.iconst X0 hx (hb hby d_wi4_1) ?_
  show Go _ _ _ _ s₁ (mkF m 2 #[.val (.ref a), .val (.int p1)] [(.int (4 : Int32)), (.ref a)]) _ _ _
  refine Go.callP (W := 0) (argsL := [(.int (4 : Int32))]) (rest := []) X0 hx hZ hown (w20 hw) (w21 hw) (w22 hw) (w2 hw) (w3 hw) (w23 hw) (by decide) f0 (rm_er4 l Z a0 hw a ab kb g h0 n0 Z0 f0 f1 f2 f3 f4 f5 f6) e0 (lenOf pd_0 rfl) (hb hby d_wi4_2) (by rw [hml]; rfl) rfl (Nat.le_of_eq rfl) (by decide) (by decide) (by decide) (by decide) ?_
  intro v24 T24 L24 X24 q24
  obtain ⟨rfl, M24, e24⟩ := q24
  have N24 := Fr.app N0 M24
  show Go _ _ _ _ T24 (mkF m 5 #[.val (.ref a), .val (.int p1)] []) _ _ _
  refine Go.aloadN X24 hx (hb hby d_wi4_5) rfl rfl ?_
  show Go _ _ _ _ T24 (mkF m 6 #[.val (.ref a), .val (.int p1)] [(.ref a)]) _ _ _
  refine Go.aloadN X24 hx (hb hby d_wi4_6) rfl rfl ?_
  show Go _ _ _ _ T24 (mkF m 7 #[.val (.ref a), .val (.int p1)] [(.ref a), (.ref a)]) _ _ _
  refine Go.getF X24 hx hZ hown (w13 hw) Via.refl e24 f6 (hb hby d_wi4_7) ?_
  intro T25 X25 e25
  show Go _ _ _ _ T25 (mkF m 10 #[.val (.ref a), .val (.int p1)] [(.int (4 : Int32)), (.ref a)]) _ _ _
  refine Go.iloadN X25 hx (hb hby d_wi4_10) rfl ?_
  show Go _ _ _ _ T25 (mkF m 11 #[.val (.ref a), .val (.int p1)] [(.int p1), (.int (4 : Int32)), (.ref a)]) _ _ _
  refine Go.callP (W := 0) (argsL := [(.int (4 : Int32)), (.int p1)]) (rest := []) X25 hx hZ hown (w24 hw) (w25 hw) (w26 hw) (w2 hw) (w3 hw) (w27 hw) (by decide) f0 (rm_pi4 l Z a0 hw a p1 ab kb g h0 n0 Z0 f0 f1 f2 f3 f4 f5) e25 (lenOf pd_1 rfl) (hb hby d_wi4_11) (by rw [hml]; rfl) rfl (Nat.le_of_eq rfl) (by decide) (by decide) (by decide) (by decide) ?_
  intro v26 T26 L26 X26 q26
  obtain ⟨rfl, M26, K26, P26_0⟩ := q26
  have N26 := Fr.app N24 M26
  have Z26 : n0 ≤ T26.heap.size := Nat.le_trans Z0 K26.1
  have B26 : h0.size ≤ T26.heap.size := Nat.le_trans (Nat.le_refl _) K26.1
  show Go _ _ _ _ T26 (mkF m 14 #[.val (.ref a), .val (.int p1)] []) _ _ _
  refine Go.aloadN X26 hx (hb hby d_wi4_14) rfl rfl ?_
  show Go _ _ _ _ T26 (mkF m 15 #[.val (.ref a), .val (.int p1)] [(.ref a)]) _ _ _
  refine Go.dup X26 hx (hb hby d_wi4_15) rfl ?_
  show Go _ _ _ _ T26 (mkF m 16 #[.val (.ref a), .val (.int p1)] [(.ref a), (.ref a)]) _ _ _
  refine Go.getF X26 hx hZ hown (w13 hw) Via.refl rfl (Fld.keep f6 K26 (ninS f3 nin0)) (hb hby d_wi4_16) ?_
  intro T27 X27 e27
  show Go _ _ _ _ T27 (mkF m 19 #[.val (.ref a), .val (.int p1)] [(.int (4 : Int32)), (.ref a)]) _ _ _
  refine Go.iconst X27 hx (hb hby d_wi4_19) ?_
  show Go _ _ _ _ T27 (mkF m 20 #[.val (.ref a), .val (.int p1)] [(.int (4 : Int32)), (.int (4 : Int32)), (.ref a)]) _ _ _
  refine Go.iadd X27 hx (hb hby d_wi4_20) ?_
  show Go _ _ _ _ T27 (mkF m 21 #[.val (.ref a), .val (.int p1)] [(.int (8 : Int32)), (.ref a)]) _ _ _
  refine Go.putF X27 hx hZ hown (w13 hw) Via.refl e27 (Fld.keep f6 K26 (ninS f3 nin0)) (Exa.keep f0 K26) (Or.inl (w14 hw)) (w2 hw) (ty := .int) (by decide) rfl rfl (hb hby d_wi4_21) ?_
  intro T28 h28 X28 e28 W28
  have N28 := Fr.snoc X28 N26 f1
  have Z28 : n0 ≤ h28.size := by rw [Wr.size W28]; exact Z26
  have B28 : h0.size ≤ h28.size := by rw [Wr.size W28]; exact B26
  show Go _ _ _ _ T28 (mkF m 24 #[.val (.ref a), .val (.int p1)] []) _ _ _
  refine Go.ret0 X28 hx hlk hret (hb hby d_wi4_24) (by decide) (by decide) ?_
  rw [e28]
  have F29 := (Fld.other W28 (Fld.keep f4 K26 (ninS f3 nin0)) (Or.inr (slot_ne (a0 := a0) (Or.inl (w12 hw)) (Or.inl (w14 hw)) (t := (.array .byte)) (t' := .int) (by decide) (by decide) (by decide))))
  have F30 := (Fld.same W28 (Fld.keep f6 K26 (ninS f3 nin0)))
  exact ⟨rfl, N28, (Keep.wr (Keep.trans (Keep.refl _ _) K26 (allS (Or.inl (List.mem_of_getElem? (i := 1) rfl)) all0)) W28 (Or.inl (List.mem_of_getElem? (i := 0) rfl))), (Exa.wr W28 (Exa.keep f0 K26)), F29, F30, (Af.other W28 P26_0 (Ne.symm f3))⟩
def Q_pi8 (Z : State) (a : Addr) (p2 : Int32) (ab : Addr) (kb : ClassId) (g : Nat → Int32) (h0 : Heap) (n0 : Nat) (v : Option Value) (h : Heap) (L : List Loc) : Prop := v = none ∧ Fr n0 L ∧ Keep h0 h [ab] ∧ Af Z h ab kb .byte 256 (fun i => Value.int ((put4 g 8 p2) i))
theorem ef_pi8 (m : MethodId) (x0 : Addr) (x1 : Int32) (x2 : Int32) : entryFrame m #[(.ref x0), (.int x1), (.int x2)] 3 = mkF m 0 #[.val (.ref x0), .val (.int x1), .val (.int x2)] [] := by first | (simp [entryFrame, mkF, argsToLocals, Value.category]; done) | rfl
set_option maxRecDepth 65536 in
set_option maxHeartbeats 40000000 in
theorem rm_pi8 (l : Launch) (Z : State) (a0 : Array Value) (hw : ∀ d ∈ tables_1, d.before a0 Z = true) (a : Addr) (p2 : Int32) (ab : Addr) (kb : ClassId) (g : Nat → Int32) (h0 : Heap) (n0 : Nat) (Z0 : n0 ≤ h0.size) (f0 : Exa Z h0 a "com/example/farcall/farcall/XdrWriter") (f1 : n0 ≤ a) (f2 : n0 ≤ ab) (f3 : a ≠ ab) (f4 : Fld Z h0 a "com/example/farcall/farcall/XdrWriter" "bytes" "[B" (.ref ab)) (f5 : Af Z h0 ab kb .byte 256 (fun i => Value.int (g i))) :
    Met l Z (⟨"com/example/farcall/farcall/XdrWriter", "putInt", "(II)V"⟩ : MethodName) prog_55_method_21_code 3 none [] ({ frames := 0, cells := 0, slots := 0, locals := 0 } : Room) #[(.ref a), (.int (8 : Int32)), (.int p2)] h0 (Q_pi8 Z a p2 ab kb g h0 n0) := by
  refine Met.of (plainFor_of_name pn_pi8) ?_
  intro p e s m below meth c s₁ X0 hx hby hml hZ hown hnm e0 hret hlk
  refine Go.cast (ef_pi8 m a ((8 : Int32)) p2) ?_
  show Go _ _ _ _ s₁ (mkF m 0 #[.val (.ref a), .val (.int (8 : Int32)), .val (.int p2)] []) _ _ _
  have N0 := Fr.nil n0
  refine Go.aloadN X0 hx (hb hby d_pi8_0) rfl rfl ?_
  show Go _ _ _ _ s₁ (mkF m 1 #[.val (.ref a), .val (.int (8 : Int32)), .val (.int p2)] [(.ref a)]) _ _ _
  refine Go.getF X0 hx hZ hown (w11 hw) Via.refl e0 f4 (hb hby d_pi8_1) ?_
  intro T31 X31 e31
  show Go _ _ _ _ T31 (mkF m 4 #[.val (.ref a), .val (.int (8 : Int32)), .val (.int p2)] [(.ref ab)]) _ _ _
  refine Go.iloadN X31 hx (hb hby d_pi8_4) rfl ?_
  show Go _ _ _ _ T31 (mkF m 5 #[.val (.ref a), .val (.int (8 : Int32)), .val (.int p2)] [(.int (8 : Int32)), (.ref ab)]) _ _ _
  refine Go.iloadN X31 hx (hb hby d_pi8_5) rfl ?_
  show Go _ _ _ _ T31 (mkF m 6 #[.val (.ref a), .val (.int (8 : Int32)), .val (.int p2)] [(.int p2), (.int (8 : Int32)), (.ref ab)]) _ _ _
  refine Go.bipush X31 hx (hb hby d_pi8_6) ?_
  show Go _ _ _ _ T31 (mkF m 8 #[.val (.ref a), .val (.int (8 : Int32)), .val (.int p2)] [(.int (24 : Int32)), (.int p2), (.int (8 : Int32)), (.ref ab)]) _ _ _
  refine Go.iushr X31 hx (hb hby d_pi8_8) ?_
  show Go _ _ _ _ T31 (mkF m 9 #[.val (.ref a), .val (.int (8 : Int32)), .val (.int p2)] [(.int (XT.ushr p2 (24 : Int32))), (.int (8 : Int32)), (.ref ab)]) _ _ _
  refine Go.i2b X31 hx (hb hby d_pi8_9) ?_
  show Go _ _ _ _ T31 (mkF m 10 #[.val (.ref a), .val (.int (8 : Int32)), .val (.int p2)] [(.int (((XT.ushr p2 (24 : Int32))).toInt8.toInt32)), (.int (8 : Int32)), (.ref ab)]) _ _ _
  refine Go.bastoreB X31 hx hZ e31 f5 (by decide) (by decide) (hb hby d_pi8_10) ?_
  intro T32 h32 X32 e32 W32 A32
  have N32 := Fr.snoc X32 N0 f2
  have Z32 : n0 ≤ h32.size := by rw [Wr.size W32]; exact Z0
  have B32 : h0.size ≤ h32.size := by rw [Wr.size W32]; exact (Nat.le_refl _)
  have A33 : Af Z h32 ab kb .byte 256 (fun i => Value.int ((updI g 8 (((((XT.ushr p2 (24 : Int32))).toInt8.toInt32)).toInt8.toInt32)) i)) := Af.updI A32
  show Go _ _ _ _ T32 (mkF m 11 #[.val (.ref a), .val (.int (8 : Int32)), .val (.int p2)] []) _ _ _
  refine Go.aloadN X32 hx (hb hby d_pi8_11) rfl rfl ?_
  show Go _ _ _ _ T32 (mkF m 12 #[.val (.ref a), .val (.int (8 : Int32)), .val (.int p2)] [(.ref a)]) _ _ _
  refine Go.getF X32 hx hZ hown (w11 hw) Via.refl e32 (Fld.other W32 f4 (Or.inl f3)) (hb hby d_pi8_12) ?_
  intro T34 X34 e34
  show Go _ _ _ _ T34 (mkF m 15 #[.val (.ref a), .val (.int (8 : Int32)), .val (.int p2)] [(.ref ab)]) _ _ _
  refine Go.iloadN X34 hx (hb hby d_pi8_15) rfl ?_
  show Go _ _ _ _ T34 (mkF m 16 #[.val (.ref a), .val (.int (8 : Int32)), .val (.int p2)] [(.int (8 : Int32)), (.ref ab)]) _ _ _
  refine Go.iconst X34 hx (hb hby d_pi8_16) ?_
  show Go _ _ _ _ T34 (mkF m 17 #[.val (.ref a), .val (.int (8 : Int32)), .val (.int p2)] [(.int (1 : Int32)), (.int (8 : Int32)), (.ref ab)]) _ _ _
  refine Go.iadd X34 hx (hb hby d_pi8_17) ?_
  show Go _ _ _ _ T34 (mkF m 18 #[.val (.ref a), .val (.int (8 : Int32)), .val (.int p2)] [(.int (9 : Int32)), (.ref ab)]) _ _ _
  refine Go.iloadN X34 hx (hb hby d_pi8_18) rfl ?_
  show Go _ _ _ _ T34 (mkF m 19 #[.val (.ref a), .val (.int (8 : Int32)), .val (.int p2)] [(.int p2), (.int (9 : Int32)), (.ref ab)]) _ _ _
  refine Go.bipush X34 hx (hb hby d_pi8_19) ?_
  show Go _ _ _ _ T34 (mkF m 21 #[.val (.ref a), .val (.int (8 : Int32)), .val (.int p2)] [(.int (16 : Int32)), (.int p2), (.int (9 : Int32)), (.ref ab)]) _ _ _
  refine Go.iushr X34 hx (hb hby d_pi8_21) ?_
  show Go _ _ _ _ T34 (mkF m 22 #[.val (.ref a), .val (.int (8 : Int32)), .val (.int p2)] [(.int (XT.ushr p2 (16 : Int32))), (.int (9 : Int32)), (.ref ab)]) _ _ _
  refine Go.i2b X34 hx (hb hby d_pi8_22) ?_
  show Go _ _ _ _ T34 (mkF m 23 #[.val (.ref a), .val (.int (8 : Int32)), .val (.int p2)] [(.int (((XT.ushr p2 (16 : Int32))).toInt8.toInt32)), (.int (9 : Int32)), (.ref ab)]) _ _ _
  refine Go.bastoreB X34 hx hZ e34 A33 (by decide) (by decide) (hb hby d_pi8_23) ?_
  intro T35 h35 X35 e35 W35 A35
  have N35 := Fr.snoc X35 N32 f2
  have Z35 : n0 ≤ h35.size := by rw [Wr.size W35]; exact Z32
  have B35 : h0.size ≤ h35.size := by rw [Wr.size W35]; exact B32
  have A36 : Af Z h35 ab kb .byte 256 (fun i => Value.int ((updI (updI g 8 (((((XT.ushr p2 (24 : Int32))).toInt8.toInt32)).toInt8.toInt32)) 9 (((((XT.ushr p2 (16 : Int32))).toInt8.toInt32)).toInt8.toInt32)) i)) := Af.updI A35
  show Go _ _ _ _ T35 (mkF m 24 #[.val (.ref a), .val (.int (8 : Int32)), .val (.int p2)] []) _ _ _
  refine Go.aloadN X35 hx (hb hby d_pi8_24) rfl rfl ?_
  show Go _ _ _ _ T35 (mkF m 25 #[.val (.ref a), .val (.int (8 : Int32)), .val (.int p2)] [(.ref a)]) _ _ _
  have F37 := (Fld.other W35 (Fld.other W32 f4 (Or.inl f3)) (Or.inl f3))
  refine Go.getF X35 hx hZ hown (w11 hw) Via.refl e35 F37 (hb hby d_pi8_25) ?_
  intro T38 X38 e38
  show Go _ _ _ _ T38 (mkF m 28 #[.val (.ref a), .val (.int (8 : Int32)), .val (.int p2)] [(.ref ab)]) _ _ _
  refine Go.iloadN X38 hx (hb hby d_pi8_28) rfl ?_
  show Go _ _ _ _ T38 (mkF m 29 #[.val (.ref a), .val (.int (8 : Int32)), .val (.int p2)] [(.int (8 : Int32)), (.ref ab)]) _ _ _
  refine Go.iconst X38 hx (hb hby d_pi8_29) ?_
  show Go _ _ _ _ T38 (mkF m 30 #[.val (.ref a), .val (.int (8 : Int32)), .val (.int p2)] [(.int (2 : Int32)), (.int (8 : Int32)), (.ref ab)]) _ _ _
  refine Go.iadd X38 hx (hb hby d_pi8_30) ?_
  show Go _ _ _ _ T38 (mkF m 31 #[.val (.ref a), .val (.int (8 : Int32)), .val (.int p2)] [(.int (10 : Int32)), (.ref ab)]) _ _ _
  refine Go.iloadN X38 hx (hb hby d_pi8_31) rfl ?_
  show Go _ _ _ _ T38 (mkF m 32 #[.val (.ref a), .val (.int (8 : Int32)), .val (.int p2)] [(.int p2), (.int (10 : Int32)), (.ref ab)]) _ _ _
  refine Go.bipush X38 hx (hb hby d_pi8_32) ?_
  show Go _ _ _ _ T38 (mkF m 34 #[.val (.ref a), .val (.int (8 : Int32)), .val (.int p2)] [(.int (8 : Int32)), (.int p2), (.int (10 : Int32)), (.ref ab)]) _ _ _
  refine Go.iushr X38 hx (hb hby d_pi8_34) ?_
  show Go _ _ _ _ T38 (mkF m 35 #[.val (.ref a), .val (.int (8 : Int32)), .val (.int p2)] [(.int (XT.ushr p2 (8 : Int32))), (.int (10 : Int32)), (.ref ab)]) _ _ _
  refine Go.i2b X38 hx (hb hby d_pi8_35) ?_
  show Go _ _ _ _ T38 (mkF m 36 #[.val (.ref a), .val (.int (8 : Int32)), .val (.int p2)] [(.int (((XT.ushr p2 (8 : Int32))).toInt8.toInt32)), (.int (10 : Int32)), (.ref ab)]) _ _ _
  refine Go.bastoreB X38 hx hZ e38 A36 (by decide) (by decide) (hb hby d_pi8_36) ?_
  intro T39 h39 X39 e39 W39 A39
  have N39 := Fr.snoc X39 N35 f2
  have Z39 : n0 ≤ h39.size := by rw [Wr.size W39]; exact Z35
  have B39 : h0.size ≤ h39.size := by rw [Wr.size W39]; exact B35
  have A40 : Af Z h39 ab kb .byte 256 (fun i => Value.int ((updI (updI (updI g 8 (((((XT.ushr p2 (24 : Int32))).toInt8.toInt32)).toInt8.toInt32)) 9 (((((XT.ushr p2 (16 : Int32))).toInt8.toInt32)).toInt8.toInt32)) 10 (((((XT.ushr p2 (8 : Int32))).toInt8.toInt32)).toInt8.toInt32)) i)) := Af.updI A39
  show Go _ _ _ _ T39 (mkF m 37 #[.val (.ref a), .val (.int (8 : Int32)), .val (.int p2)] []) _ _ _
  refine Go.aloadN X39 hx (hb hby d_pi8_37) rfl rfl ?_
  show Go _ _ _ _ T39 (mkF m 38 #[.val (.ref a), .val (.int (8 : Int32)), .val (.int p2)] [(.ref a)]) _ _ _
  refine Go.getF X39 hx hZ hown (w11 hw) Via.refl e39 (Fld.other W39 F37 (Or.inl f3)) (hb hby d_pi8_38) ?_
  intro T41 X41 e41
  show Go _ _ _ _ T41 (mkF m 41 #[.val (.ref a), .val (.int (8 : Int32)), .val (.int p2)] [(.ref ab)]) _ _ _
  refine Go.iloadN X41 hx (hb hby d_pi8_41) rfl ?_
  show Go _ _ _ _ T41 (mkF m 42 #[.val (.ref a), .val (.int (8 : Int32)), .val (.int p2)] [(.int (8 : Int32)), (.ref ab)]) _ _ _
  refine Go.iconst X41 hx (hb hby d_pi8_42) ?_
  show Go _ _ _ _ T41 (mkF m 43 #[.val (.ref a), .val (.int (8 : Int32)), .val (.int p2)] [(.int (3 : Int32)), (.int (8 : Int32)), (.ref ab)]) _ _ _
  refine Go.iadd X41 hx (hb hby d_pi8_43) ?_
  show Go _ _ _ _ T41 (mkF m 44 #[.val (.ref a), .val (.int (8 : Int32)), .val (.int p2)] [(.int (11 : Int32)), (.ref ab)]) _ _ _
  refine Go.iloadN X41 hx (hb hby d_pi8_44) rfl ?_
  show Go _ _ _ _ T41 (mkF m 45 #[.val (.ref a), .val (.int (8 : Int32)), .val (.int p2)] [(.int p2), (.int (11 : Int32)), (.ref ab)]) _ _ _
  refine Go.i2b X41 hx (hb hby d_pi8_45) ?_
  show Go _ _ _ _ T41 (mkF m 46 #[.val (.ref a), .val (.int (8 : Int32)), .val (.int p2)] [(.int ((p2).toInt8.toInt32)), (.int (11 : Int32)), (.ref ab)]) _ _ _
  refine Go.bastoreB X41 hx hZ e41 A40 (by decide) (by decide) (hb hby d_pi8_46) ?_
  intro T42 h42 X42 e42 W42 A42
  have N42 := Fr.snoc X42 N39 f2
  have Z42 : n0 ≤ h42.size := by rw [Wr.size W42]; exact Z39
  have B42 : h0.size ≤ h42.size := by rw [Wr.size W42]; exact B39
  have A43 : Af Z h42 ab kb .byte 256 (fun i => Value.int ((updI (updI (updI (updI g 8 (((((XT.ushr p2 (24 : Int32))).toInt8.toInt32)).toInt8.toInt32)) 9 (((((XT.ushr p2 (16 : Int32))).toInt8.toInt32)).toInt8.toInt32)) 10 (((((XT.ushr p2 (8 : Int32))).toInt8.toInt32)).toInt8.toInt32)) 11 ((((p2).toInt8.toInt32)).toInt8.toInt32)) i)) := Af.updI A42
  show Go _ _ _ _ T42 (mkF m 47 #[.val (.ref a), .val (.int (8 : Int32)), .val (.int p2)] []) _ _ _
  refine Go.ret0 X42 hx hlk hret (hb hby d_pi8_47) (by decide) (by decide) ?_
  rw [e42]
  exact ⟨rfl, N42, (Keep.wr (Keep.wr (Keep.wr (Keep.wr (Keep.refl _ _) W32 (Or.inl (List.mem_of_getElem? (i := 0) rfl))) W35 (Or.inl (List.mem_of_getElem? (i := 0) rfl))) W39 (Or.inl (List.mem_of_getElem? (i := 0) rfl))) W42 (Or.inl (List.mem_of_getElem? (i := 0) rfl))), A43⟩
def Q_er8 (Z : State) (a : Addr) (ab : Addr) (kb : ClassId) (g : Nat → Int32) (h0 : Heap) (n0 : Nat) (v : Option Value) (h : Heap) (L : List Loc) : Prop := v = none ∧ Fr n0 L ∧ h = h0
theorem ef_er8 (m : MethodId) (x0 : Addr) (x1 : Int32) : entryFrame m #[(.ref x0), (.int x1)] 3 = mkF m 0 #[.val (.ref x0), .val (.int x1), .unset] [] := by first | (simp [entryFrame, mkF, argsToLocals, Value.category]; done) | rfl
set_option maxRecDepth 65536 in
set_option maxHeartbeats 40000000 in
theorem rm_er8 (l : Launch) (Z : State) (a0 : Array Value) (hw : ∀ d ∈ tables_1, d.before a0 Z = true) (a : Addr) (ab : Addr) (kb : ClassId) (g : Nat → Int32) (h0 : Heap) (n0 : Nat) (Z0 : n0 ≤ h0.size) (f0 : Exa Z h0 a "com/example/farcall/farcall/XdrWriter") (f1 : n0 ≤ a) (f2 : n0 ≤ ab) (f3 : a ≠ ab) (f4 : Fld Z h0 a "com/example/farcall/farcall/XdrWriter" "bytes" "[B" (.ref ab)) (f5 : Af Z h0 ab kb .byte 256 (fun i => Value.int (g i))) (f6 : Fld Z h0 a "com/example/farcall/farcall/XdrWriter" "end" "I" (.int (8 : Int32))) :
    Met l Z (⟨"com/example/farcall/farcall/XdrWriter", "ensureRoom", "(I)V"⟩ : MethodName) prog_55_method_22_code 3 none [] ({ frames := 0, cells := 0, slots := 0, locals := 0 } : Room) #[(.ref a), (.int (4 : Int32))] h0 (Q_er8 Z a ab kb g h0 n0) := by
  refine Met.of (plainFor_of_name pn_er8) ?_
  intro p e s m below meth c s₁ X0 hx hby hml hZ hown hnm e0 hret hlk
  refine Go.cast (ef_er8 m a ((4 : Int32))) ?_
  show Go _ _ _ _ s₁ (mkF m 0 #[.val (.ref a), .val (.int (4 : Int32)), .unset] []) _ _ _
  have N0 := Fr.nil n0
  refine Go.iloadN X0 hx (hb hby d_er8_0) rfl ?_
  show Go _ _ _ _ s₁ (mkF m 1 #[.val (.ref a), .val (.int (4 : Int32)), .unset] [(.int (4 : Int32))]) _ _ _
  refine Go.aloadN X0 hx (hb hby d_er8_1) rfl rfl ?_
  show Go _ _ _ _ s₁ (mkF m 2 #[.val (.ref a), .val (.int (4 : Int32)), .unset] [(.ref a), (.int (4 : Int32))]) _ _ _
  refine Go.getF X0 hx hZ hown (w11 hw) Via.refl e0 f4 (hb hby d_er8_2) ?_
  intro T44 X44 e44
  show Go _ _ _ _ T44 (mkF m 5 #[.val (.ref a), .val (.int (4 : Int32)), .unset] [(.ref ab), (.int (4 : Int32))]) _ _ _
  refine Go.alen X44 hx hZ e44 f5 (hb hby d_er8_5) ?_
  show Go _ _ _ _ T44 (mkF m 6 #[.val (.ref a), .val (.int (4 : Int32)), .unset] [(.int (256 : Int32)), (.int (4 : Int32))]) _ _ _
  refine Go.aloadN X44 hx (hb hby d_er8_6) rfl rfl ?_
  show Go _ _ _ _ T44 (mkF m 7 #[.val (.ref a), .val (.int (4 : Int32)), .unset] [(.ref a), (.int (256 : Int32)), (.int (4 : Int32))]) _ _ _
  refine Go.getF X44 hx hZ hown (w13 hw) Via.refl e44 f6 (hb hby d_er8_7) ?_
  intro T45 X45 e45
  show Go _ _ _ _ T45 (mkF m 10 #[.val (.ref a), .val (.int (4 : Int32)), .unset] [(.int (8 : Int32)), (.int (256 : Int32)), (.int (4 : Int32))]) _ _ _
  refine Go.isub X45 hx (hb hby d_er8_10) ?_
  show Go _ _ _ _ T45 (mkF m 11 #[.val (.ref a), .val (.int (4 : Int32)), .unset] [(.int (248 : Int32)), (.int (4 : Int32))]) _ _ _
  refine Go.icmpYes X45 hx (hb hby d_er8_11) (XT.ii_le_t (by decide)) (pc' := 45) (by decide) (by decide) ?_
  show Go _ _ _ _ T45 (mkF m 45 #[.val (.ref a), .val (.int (4 : Int32)), .unset] []) _ _ _
  refine Go.ret0 X45 hx hlk hret (hb hby d_er8_45) (by decide) (by decide) ?_
  rw [e45]
  exact ⟨rfl, N0, rfl⟩
def Q_wi8 (Z : State) (a : Addr) (p1 : Int32) (ab : Addr) (kb : ClassId) (g : Nat → Int32) (h0 : Heap) (n0 : Nat) (v : Option Value) (h : Heap) (L : List Loc) : Prop := v = none ∧ Fr n0 L ∧ Keep h0 h [a, ab] ∧ Exa Z h a "com/example/farcall/farcall/XdrWriter" ∧ Fld Z h a "com/example/farcall/farcall/XdrWriter" "bytes" "[B" (.ref ab) ∧ Fld Z h a "com/example/farcall/farcall/XdrWriter" "end" "I" (.int (12 : Int32)) ∧ Af Z h ab kb .byte 256 (fun i => Value.int ((put4 g 8 p1) i))
theorem ef_wi8 (m : MethodId) (x0 : Addr) (x1 : Int32) : entryFrame m #[(.ref x0), (.int x1)] 2 = mkF m 0 #[.val (.ref x0), .val (.int x1)] [] := by first | (simp [entryFrame, mkF, argsToLocals, Value.category]; done) | rfl
set_option maxRecDepth 65536 in
set_option maxHeartbeats 40000000 in
theorem rm_wi8 (l : Launch) (Z : State) (a0 : Array Value) (hw : ∀ d ∈ tables_1, d.before a0 Z = true) (a : Addr) (p1 : Int32) (ab : Addr) (kb : ClassId) (g : Nat → Int32) (h0 : Heap) (n0 : Nat) (Z0 : n0 ≤ h0.size) (f0 : Exa Z h0 a "com/example/farcall/farcall/XdrWriter") (f1 : n0 ≤ a) (f2 : n0 ≤ ab) (f3 : a ≠ ab) (f4 : Fld Z h0 a "com/example/farcall/farcall/XdrWriter" "bytes" "[B" (.ref ab)) (f5 : Af Z h0 ab kb .byte 256 (fun i => Value.int (g i))) (f6 : Fld Z h0 a "com/example/farcall/farcall/XdrWriter" "end" "I" (.int (8 : Int32))) :
    Met l Z (⟨"com/example/farcall/farcall/XdrWriter", "writeInt", "(I)V"⟩ : MethodName) prog_55_method_2_code 2 none [] ({ frames := 1, cells := 0, slots := 0, locals := 14 } : Room) #[(.ref a), (.int p1)] h0 (Q_wi8 Z a p1 ab kb g h0 n0) := by
  refine Met.of (plainFor_of_name pn_wi8) ?_
  intro p e s m below meth c s₁ X0 hx hby hml hZ hown hnm e0 hret hlk
  refine Go.cast (ef_wi8 m a p1) ?_
  show Go _ _ _ _ s₁ (mkF m 0 #[.val (.ref a), .val (.int p1)] []) _ _ _
  have N0 := Fr.nil n0
  refine Go.aloadN X0 hx (hb hby d_wi8_0) rfl rfl ?_
  show Go _ _ _ _ s₁ (mkF m 1 #[.val (.ref a), .val (.int p1)] [(.ref a)]) _ _ _
  refine Go.iconst X0 hx (hb hby d_wi8_1) ?_
  show Go _ _ _ _ s₁ (mkF m 2 #[.val (.ref a), .val (.int p1)] [(.int (4 : Int32)), (.ref a)]) _ _ _
  refine Go.callP (W := 0) (argsL := [(.int (4 : Int32))]) (rest := []) X0 hx hZ hown (w20 hw) (w21 hw) (w22 hw) (w2 hw) (w3 hw) (w23 hw) (by decide) f0 (rm_er8 l Z a0 hw a ab kb g h0 n0 Z0 f0 f1 f2 f3 f4 f5 f6) e0 (lenOf pd_0 rfl) (hb hby d_wi8_2) (by rw [hml]; rfl) rfl (Nat.le_of_eq rfl) (by decide) (by decide) (by decide) (by decide) ?_
  intro v46 T46 L46 X46 q46
  obtain ⟨rfl, M46, e46⟩ := q46
  have N46 := Fr.app N0 M46
  show Go _ _ _ _ T46 (mkF m 5 #[.val (.ref a), .val (.int p1)] []) _ _ _
  refine Go.aloadN X46 hx (hb hby d_wi8_5) rfl rfl ?_
  show Go _ _ _ _ T46 (mkF m 6 #[.val (.ref a), .val (.int p1)] [(.ref a)]) _ _ _
  refine Go.aloadN X46 hx (hb hby d_wi8_6) rfl rfl ?_
  show Go _ _ _ _ T46 (mkF m 7 #[.val (.ref a), .val (.int p1)] [(.ref a), (.ref a)]) _ _ _
  refine Go.getF X46 hx hZ hown (w13 hw) Via.refl e46 f6 (hb hby d_wi8_7) ?_
  intro T47 X47 e47
  show Go _ _ _ _ T47 (mkF m 10 #[.val (.ref a), .val (.int p1)] [(.int (8 : Int32)), (.ref a)]) _ _ _
  refine Go.iloadN X47 hx (hb hby d_wi8_10) rfl ?_
  show Go _ _ _ _ T47 (mkF m 11 #[.val (.ref a), .val (.int p1)] [(.int p1), (.int (8 : Int32)), (.ref a)]) _ _ _
  refine Go.callP (W := 0) (argsL := [(.int (8 : Int32)), (.int p1)]) (rest := []) X47 hx hZ hown (w24 hw) (w25 hw) (w26 hw) (w2 hw) (w3 hw) (w27 hw) (by decide) f0 (rm_pi8 l Z a0 hw a p1 ab kb g h0 n0 Z0 f0 f1 f2 f3 f4 f5) e47 (lenOf pd_1 rfl) (hb hby d_wi8_11) (by rw [hml]; rfl) rfl (Nat.le_of_eq rfl) (by decide) (by decide) (by decide) (by decide) ?_
  intro v48 T48 L48 X48 q48
  obtain ⟨rfl, M48, K48, P48_0⟩ := q48
  have N48 := Fr.app N46 M48
  have Z48 : n0 ≤ T48.heap.size := Nat.le_trans Z0 K48.1
  have B48 : h0.size ≤ T48.heap.size := Nat.le_trans (Nat.le_refl _) K48.1
  show Go _ _ _ _ T48 (mkF m 14 #[.val (.ref a), .val (.int p1)] []) _ _ _
  refine Go.aloadN X48 hx (hb hby d_wi8_14) rfl rfl ?_
  show Go _ _ _ _ T48 (mkF m 15 #[.val (.ref a), .val (.int p1)] [(.ref a)]) _ _ _
  refine Go.dup X48 hx (hb hby d_wi8_15) rfl ?_
  show Go _ _ _ _ T48 (mkF m 16 #[.val (.ref a), .val (.int p1)] [(.ref a), (.ref a)]) _ _ _
  refine Go.getF X48 hx hZ hown (w13 hw) Via.refl rfl (Fld.keep f6 K48 (ninS f3 nin0)) (hb hby d_wi8_16) ?_
  intro T49 X49 e49
  show Go _ _ _ _ T49 (mkF m 19 #[.val (.ref a), .val (.int p1)] [(.int (8 : Int32)), (.ref a)]) _ _ _
  refine Go.iconst X49 hx (hb hby d_wi8_19) ?_
  show Go _ _ _ _ T49 (mkF m 20 #[.val (.ref a), .val (.int p1)] [(.int (4 : Int32)), (.int (8 : Int32)), (.ref a)]) _ _ _
  refine Go.iadd X49 hx (hb hby d_wi8_20) ?_
  show Go _ _ _ _ T49 (mkF m 21 #[.val (.ref a), .val (.int p1)] [(.int (12 : Int32)), (.ref a)]) _ _ _
  refine Go.putF X49 hx hZ hown (w13 hw) Via.refl e49 (Fld.keep f6 K48 (ninS f3 nin0)) (Exa.keep f0 K48) (Or.inl (w14 hw)) (w2 hw) (ty := .int) (by decide) rfl rfl (hb hby d_wi8_21) ?_
  intro T50 h50 X50 e50 W50
  have N50 := Fr.snoc X50 N48 f1
  have Z50 : n0 ≤ h50.size := by rw [Wr.size W50]; exact Z48
  have B50 : h0.size ≤ h50.size := by rw [Wr.size W50]; exact B48
  show Go _ _ _ _ T50 (mkF m 24 #[.val (.ref a), .val (.int p1)] []) _ _ _
  refine Go.ret0 X50 hx hlk hret (hb hby d_wi8_24) (by decide) (by decide) ?_
  rw [e50]
  have F51 := (Fld.other W50 (Fld.keep f4 K48 (ninS f3 nin0)) (Or.inr (slot_ne (a0 := a0) (Or.inl (w12 hw)) (Or.inl (w14 hw)) (t := (.array .byte)) (t' := .int) (by decide) (by decide) (by decide))))
  have F52 := (Fld.same W50 (Fld.keep f6 K48 (ninS f3 nin0)))
  exact ⟨rfl, N50, (Keep.wr (Keep.trans (Keep.refl _ _) K48 (allS (Or.inl (List.mem_of_getElem? (i := 1) rfl)) all0)) W50 (Or.inl (List.mem_of_getElem? (i := 0) rfl))), (Exa.wr W50 (Exa.keep f0 K48)), F51, F52, (Af.other W50 P48_0 (Ne.symm f3))⟩
def Q_pi12 (Z : State) (a : Addr) (p2 : Int32) (ab : Addr) (kb : ClassId) (g : Nat → Int32) (h0 : Heap) (n0 : Nat) (v : Option Value) (h : Heap) (L : List Loc) : Prop := v = none ∧ Fr n0 L ∧ Keep h0 h [ab] ∧ Af Z h ab kb .byte 256 (fun i => Value.int ((put4 g 12 p2) i))
theorem ef_pi12 (m : MethodId) (x0 : Addr) (x1 : Int32) (x2 : Int32) : entryFrame m #[(.ref x0), (.int x1), (.int x2)] 3 = mkF m 0 #[.val (.ref x0), .val (.int x1), .val (.int x2)] [] := by first | (simp [entryFrame, mkF, argsToLocals, Value.category]; done) | rfl
set_option maxRecDepth 65536 in
set_option maxHeartbeats 40000000 in
theorem rm_pi12 (l : Launch) (Z : State) (a0 : Array Value) (hw : ∀ d ∈ tables_1, d.before a0 Z = true) (a : Addr) (p2 : Int32) (ab : Addr) (kb : ClassId) (g : Nat → Int32) (h0 : Heap) (n0 : Nat) (Z0 : n0 ≤ h0.size) (f0 : Exa Z h0 a "com/example/farcall/farcall/XdrWriter") (f1 : n0 ≤ a) (f2 : n0 ≤ ab) (f3 : a ≠ ab) (f4 : Fld Z h0 a "com/example/farcall/farcall/XdrWriter" "bytes" "[B" (.ref ab)) (f5 : Af Z h0 ab kb .byte 256 (fun i => Value.int (g i))) :
    Met l Z (⟨"com/example/farcall/farcall/XdrWriter", "putInt", "(II)V"⟩ : MethodName) prog_55_method_21_code 3 none [] ({ frames := 0, cells := 0, slots := 0, locals := 0 } : Room) #[(.ref a), (.int (12 : Int32)), (.int p2)] h0 (Q_pi12 Z a p2 ab kb g h0 n0) := by
  refine Met.of (plainFor_of_name pn_pi12) ?_
  intro p e s m below meth c s₁ X0 hx hby hml hZ hown hnm e0 hret hlk
  refine Go.cast (ef_pi12 m a ((12 : Int32)) p2) ?_
  show Go _ _ _ _ s₁ (mkF m 0 #[.val (.ref a), .val (.int (12 : Int32)), .val (.int p2)] []) _ _ _
  have N0 := Fr.nil n0
  refine Go.aloadN X0 hx (hb hby d_pi12_0) rfl rfl ?_
  show Go _ _ _ _ s₁ (mkF m 1 #[.val (.ref a), .val (.int (12 : Int32)), .val (.int p2)] [(.ref a)]) _ _ _
  refine Go.getF X0 hx hZ hown (w11 hw) Via.refl e0 f4 (hb hby d_pi12_1) ?_
  intro T53 X53 e53
  show Go _ _ _ _ T53 (mkF m 4 #[.val (.ref a), .val (.int (12 : Int32)), .val (.int p2)] [(.ref ab)]) _ _ _
  refine Go.iloadN X53 hx (hb hby d_pi12_4) rfl ?_
  show Go _ _ _ _ T53 (mkF m 5 #[.val (.ref a), .val (.int (12 : Int32)), .val (.int p2)] [(.int (12 : Int32)), (.ref ab)]) _ _ _
  refine Go.iloadN X53 hx (hb hby d_pi12_5) rfl ?_
  show Go _ _ _ _ T53 (mkF m 6 #[.val (.ref a), .val (.int (12 : Int32)), .val (.int p2)] [(.int p2), (.int (12 : Int32)), (.ref ab)]) _ _ _
  refine Go.bipush X53 hx (hb hby d_pi12_6) ?_
  show Go _ _ _ _ T53 (mkF m 8 #[.val (.ref a), .val (.int (12 : Int32)), .val (.int p2)] [(.int (24 : Int32)), (.int p2), (.int (12 : Int32)), (.ref ab)]) _ _ _
  refine Go.iushr X53 hx (hb hby d_pi12_8) ?_
  show Go _ _ _ _ T53 (mkF m 9 #[.val (.ref a), .val (.int (12 : Int32)), .val (.int p2)] [(.int (XT.ushr p2 (24 : Int32))), (.int (12 : Int32)), (.ref ab)]) _ _ _
  refine Go.i2b X53 hx (hb hby d_pi12_9) ?_
  show Go _ _ _ _ T53 (mkF m 10 #[.val (.ref a), .val (.int (12 : Int32)), .val (.int p2)] [(.int (((XT.ushr p2 (24 : Int32))).toInt8.toInt32)), (.int (12 : Int32)), (.ref ab)]) _ _ _
  refine Go.bastoreB X53 hx hZ e53 f5 (by decide) (by decide) (hb hby d_pi12_10) ?_
  intro T54 h54 X54 e54 W54 A54
  have N54 := Fr.snoc X54 N0 f2
  have Z54 : n0 ≤ h54.size := by rw [Wr.size W54]; exact Z0
  have B54 : h0.size ≤ h54.size := by rw [Wr.size W54]; exact (Nat.le_refl _)
  have A55 : Af Z h54 ab kb .byte 256 (fun i => Value.int ((updI g 12 (((((XT.ushr p2 (24 : Int32))).toInt8.toInt32)).toInt8.toInt32)) i)) := Af.updI A54
  show Go _ _ _ _ T54 (mkF m 11 #[.val (.ref a), .val (.int (12 : Int32)), .val (.int p2)] []) _ _ _
  refine Go.aloadN X54 hx (hb hby d_pi12_11) rfl rfl ?_
  show Go _ _ _ _ T54 (mkF m 12 #[.val (.ref a), .val (.int (12 : Int32)), .val (.int p2)] [(.ref a)]) _ _ _
  refine Go.getF X54 hx hZ hown (w11 hw) Via.refl e54 (Fld.other W54 f4 (Or.inl f3)) (hb hby d_pi12_12) ?_
  intro T56 X56 e56
  show Go _ _ _ _ T56 (mkF m 15 #[.val (.ref a), .val (.int (12 : Int32)), .val (.int p2)] [(.ref ab)]) _ _ _
  refine Go.iloadN X56 hx (hb hby d_pi12_15) rfl ?_
  show Go _ _ _ _ T56 (mkF m 16 #[.val (.ref a), .val (.int (12 : Int32)), .val (.int p2)] [(.int (12 : Int32)), (.ref ab)]) _ _ _
  refine Go.iconst X56 hx (hb hby d_pi12_16) ?_
  show Go _ _ _ _ T56 (mkF m 17 #[.val (.ref a), .val (.int (12 : Int32)), .val (.int p2)] [(.int (1 : Int32)), (.int (12 : Int32)), (.ref ab)]) _ _ _
  refine Go.iadd X56 hx (hb hby d_pi12_17) ?_
  show Go _ _ _ _ T56 (mkF m 18 #[.val (.ref a), .val (.int (12 : Int32)), .val (.int p2)] [(.int (13 : Int32)), (.ref ab)]) _ _ _
  refine Go.iloadN X56 hx (hb hby d_pi12_18) rfl ?_
  show Go _ _ _ _ T56 (mkF m 19 #[.val (.ref a), .val (.int (12 : Int32)), .val (.int p2)] [(.int p2), (.int (13 : Int32)), (.ref ab)]) _ _ _
  refine Go.bipush X56 hx (hb hby d_pi12_19) ?_
  show Go _ _ _ _ T56 (mkF m 21 #[.val (.ref a), .val (.int (12 : Int32)), .val (.int p2)] [(.int (16 : Int32)), (.int p2), (.int (13 : Int32)), (.ref ab)]) _ _ _
  refine Go.iushr X56 hx (hb hby d_pi12_21) ?_
  show Go _ _ _ _ T56 (mkF m 22 #[.val (.ref a), .val (.int (12 : Int32)), .val (.int p2)] [(.int (XT.ushr p2 (16 : Int32))), (.int (13 : Int32)), (.ref ab)]) _ _ _
  refine Go.i2b X56 hx (hb hby d_pi12_22) ?_
  show Go _ _ _ _ T56 (mkF m 23 #[.val (.ref a), .val (.int (12 : Int32)), .val (.int p2)] [(.int (((XT.ushr p2 (16 : Int32))).toInt8.toInt32)), (.int (13 : Int32)), (.ref ab)]) _ _ _
  refine Go.bastoreB X56 hx hZ e56 A55 (by decide) (by decide) (hb hby d_pi12_23) ?_
  intro T57 h57 X57 e57 W57 A57
  have N57 := Fr.snoc X57 N54 f2
  have Z57 : n0 ≤ h57.size := by rw [Wr.size W57]; exact Z54
  have B57 : h0.size ≤ h57.size := by rw [Wr.size W57]; exact B54
  have A58 : Af Z h57 ab kb .byte 256 (fun i => Value.int ((updI (updI g 12 (((((XT.ushr p2 (24 : Int32))).toInt8.toInt32)).toInt8.toInt32)) 13 (((((XT.ushr p2 (16 : Int32))).toInt8.toInt32)).toInt8.toInt32)) i)) := Af.updI A57
  show Go _ _ _ _ T57 (mkF m 24 #[.val (.ref a), .val (.int (12 : Int32)), .val (.int p2)] []) _ _ _
  refine Go.aloadN X57 hx (hb hby d_pi12_24) rfl rfl ?_
  show Go _ _ _ _ T57 (mkF m 25 #[.val (.ref a), .val (.int (12 : Int32)), .val (.int p2)] [(.ref a)]) _ _ _
  have F59 := (Fld.other W57 (Fld.other W54 f4 (Or.inl f3)) (Or.inl f3))
  refine Go.getF X57 hx hZ hown (w11 hw) Via.refl e57 F59 (hb hby d_pi12_25) ?_
  intro T60 X60 e60
  show Go _ _ _ _ T60 (mkF m 28 #[.val (.ref a), .val (.int (12 : Int32)), .val (.int p2)] [(.ref ab)]) _ _ _
  refine Go.iloadN X60 hx (hb hby d_pi12_28) rfl ?_
  show Go _ _ _ _ T60 (mkF m 29 #[.val (.ref a), .val (.int (12 : Int32)), .val (.int p2)] [(.int (12 : Int32)), (.ref ab)]) _ _ _
  refine Go.iconst X60 hx (hb hby d_pi12_29) ?_
  show Go _ _ _ _ T60 (mkF m 30 #[.val (.ref a), .val (.int (12 : Int32)), .val (.int p2)] [(.int (2 : Int32)), (.int (12 : Int32)), (.ref ab)]) _ _ _
  refine Go.iadd X60 hx (hb hby d_pi12_30) ?_
  show Go _ _ _ _ T60 (mkF m 31 #[.val (.ref a), .val (.int (12 : Int32)), .val (.int p2)] [(.int (14 : Int32)), (.ref ab)]) _ _ _
  refine Go.iloadN X60 hx (hb hby d_pi12_31) rfl ?_
  show Go _ _ _ _ T60 (mkF m 32 #[.val (.ref a), .val (.int (12 : Int32)), .val (.int p2)] [(.int p2), (.int (14 : Int32)), (.ref ab)]) _ _ _
  refine Go.bipush X60 hx (hb hby d_pi12_32) ?_
  show Go _ _ _ _ T60 (mkF m 34 #[.val (.ref a), .val (.int (12 : Int32)), .val (.int p2)] [(.int (8 : Int32)), (.int p2), (.int (14 : Int32)), (.ref ab)]) _ _ _
  refine Go.iushr X60 hx (hb hby d_pi12_34) ?_
  show Go _ _ _ _ T60 (mkF m 35 #[.val (.ref a), .val (.int (12 : Int32)), .val (.int p2)] [(.int (XT.ushr p2 (8 : Int32))), (.int (14 : Int32)), (.ref ab)]) _ _ _
  refine Go.i2b X60 hx (hb hby d_pi12_35) ?_
  show Go _ _ _ _ T60 (mkF m 36 #[.val (.ref a), .val (.int (12 : Int32)), .val (.int p2)] [(.int (((XT.ushr p2 (8 : Int32))).toInt8.toInt32)), (.int (14 : Int32)), (.ref ab)]) _ _ _
  refine Go.bastoreB X60 hx hZ e60 A58 (by decide) (by decide) (hb hby d_pi12_36) ?_
  intro T61 h61 X61 e61 W61 A61
  have N61 := Fr.snoc X61 N57 f2
  have Z61 : n0 ≤ h61.size := by rw [Wr.size W61]; exact Z57
  have B61 : h0.size ≤ h61.size := by rw [Wr.size W61]; exact B57
  have A62 : Af Z h61 ab kb .byte 256 (fun i => Value.int ((updI (updI (updI g 12 (((((XT.ushr p2 (24 : Int32))).toInt8.toInt32)).toInt8.toInt32)) 13 (((((XT.ushr p2 (16 : Int32))).toInt8.toInt32)).toInt8.toInt32)) 14 (((((XT.ushr p2 (8 : Int32))).toInt8.toInt32)).toInt8.toInt32)) i)) := Af.updI A61
  show Go _ _ _ _ T61 (mkF m 37 #[.val (.ref a), .val (.int (12 : Int32)), .val (.int p2)] []) _ _ _
  refine Go.aloadN X61 hx (hb hby d_pi12_37) rfl rfl ?_
  show Go _ _ _ _ T61 (mkF m 38 #[.val (.ref a), .val (.int (12 : Int32)), .val (.int p2)] [(.ref a)]) _ _ _
  refine Go.getF X61 hx hZ hown (w11 hw) Via.refl e61 (Fld.other W61 F59 (Or.inl f3)) (hb hby d_pi12_38) ?_
  intro T63 X63 e63
  show Go _ _ _ _ T63 (mkF m 41 #[.val (.ref a), .val (.int (12 : Int32)), .val (.int p2)] [(.ref ab)]) _ _ _
  refine Go.iloadN X63 hx (hb hby d_pi12_41) rfl ?_
  show Go _ _ _ _ T63 (mkF m 42 #[.val (.ref a), .val (.int (12 : Int32)), .val (.int p2)] [(.int (12 : Int32)), (.ref ab)]) _ _ _
  refine Go.iconst X63 hx (hb hby d_pi12_42) ?_
  show Go _ _ _ _ T63 (mkF m 43 #[.val (.ref a), .val (.int (12 : Int32)), .val (.int p2)] [(.int (3 : Int32)), (.int (12 : Int32)), (.ref ab)]) _ _ _
  refine Go.iadd X63 hx (hb hby d_pi12_43) ?_
  show Go _ _ _ _ T63 (mkF m 44 #[.val (.ref a), .val (.int (12 : Int32)), .val (.int p2)] [(.int (15 : Int32)), (.ref ab)]) _ _ _
  refine Go.iloadN X63 hx (hb hby d_pi12_44) rfl ?_
  show Go _ _ _ _ T63 (mkF m 45 #[.val (.ref a), .val (.int (12 : Int32)), .val (.int p2)] [(.int p2), (.int (15 : Int32)), (.ref ab)]) _ _ _
  refine Go.i2b X63 hx (hb hby d_pi12_45) ?_
  show Go _ _ _ _ T63 (mkF m 46 #[.val (.ref a), .val (.int (12 : Int32)), .val (.int p2)] [(.int ((p2).toInt8.toInt32)), (.int (15 : Int32)), (.ref ab)]) _ _ _
  refine Go.bastoreB X63 hx hZ e63 A62 (by decide) (by decide) (hb hby d_pi12_46) ?_
  intro T64 h64 X64 e64 W64 A64
  have N64 := Fr.snoc X64 N61 f2
  have Z64 : n0 ≤ h64.size := by rw [Wr.size W64]; exact Z61
  have B64 : h0.size ≤ h64.size := by rw [Wr.size W64]; exact B61
  have A65 : Af Z h64 ab kb .byte 256 (fun i => Value.int ((updI (updI (updI (updI g 12 (((((XT.ushr p2 (24 : Int32))).toInt8.toInt32)).toInt8.toInt32)) 13 (((((XT.ushr p2 (16 : Int32))).toInt8.toInt32)).toInt8.toInt32)) 14 (((((XT.ushr p2 (8 : Int32))).toInt8.toInt32)).toInt8.toInt32)) 15 ((((p2).toInt8.toInt32)).toInt8.toInt32)) i)) := Af.updI A64
  show Go _ _ _ _ T64 (mkF m 47 #[.val (.ref a), .val (.int (12 : Int32)), .val (.int p2)] []) _ _ _
  refine Go.ret0 X64 hx hlk hret (hb hby d_pi12_47) (by decide) (by decide) ?_
  rw [e64]
  exact ⟨rfl, N64, (Keep.wr (Keep.wr (Keep.wr (Keep.wr (Keep.refl _ _) W54 (Or.inl (List.mem_of_getElem? (i := 0) rfl))) W57 (Or.inl (List.mem_of_getElem? (i := 0) rfl))) W61 (Or.inl (List.mem_of_getElem? (i := 0) rfl))) W64 (Or.inl (List.mem_of_getElem? (i := 0) rfl))), A65⟩
def Q_er12 (Z : State) (a : Addr) (ab : Addr) (kb : ClassId) (g : Nat → Int32) (h0 : Heap) (n0 : Nat) (v : Option Value) (h : Heap) (L : List Loc) : Prop := v = none ∧ Fr n0 L ∧ h = h0
theorem ef_er12 (m : MethodId) (x0 : Addr) (x1 : Int32) : entryFrame m #[(.ref x0), (.int x1)] 3 = mkF m 0 #[.val (.ref x0), .val (.int x1), .unset] [] := by first | (simp [entryFrame, mkF, argsToLocals, Value.category]; done) | rfl
set_option maxRecDepth 65536 in
set_option maxHeartbeats 40000000 in
theorem rm_er12 (l : Launch) (Z : State) (a0 : Array Value) (hw : ∀ d ∈ tables_1, d.before a0 Z = true) (a : Addr) (ab : Addr) (kb : ClassId) (g : Nat → Int32) (h0 : Heap) (n0 : Nat) (Z0 : n0 ≤ h0.size) (f0 : Exa Z h0 a "com/example/farcall/farcall/XdrWriter") (f1 : n0 ≤ a) (f2 : n0 ≤ ab) (f3 : a ≠ ab) (f4 : Fld Z h0 a "com/example/farcall/farcall/XdrWriter" "bytes" "[B" (.ref ab)) (f5 : Af Z h0 ab kb .byte 256 (fun i => Value.int (g i))) (f6 : Fld Z h0 a "com/example/farcall/farcall/XdrWriter" "end" "I" (.int (12 : Int32))) :
    Met l Z (⟨"com/example/farcall/farcall/XdrWriter", "ensureRoom", "(I)V"⟩ : MethodName) prog_55_method_22_code 3 none [] ({ frames := 0, cells := 0, slots := 0, locals := 0 } : Room) #[(.ref a), (.int (4 : Int32))] h0 (Q_er12 Z a ab kb g h0 n0) := by
  refine Met.of (plainFor_of_name pn_er12) ?_
  intro p e s m below meth c s₁ X0 hx hby hml hZ hown hnm e0 hret hlk
  refine Go.cast (ef_er12 m a ((4 : Int32))) ?_
  show Go _ _ _ _ s₁ (mkF m 0 #[.val (.ref a), .val (.int (4 : Int32)), .unset] []) _ _ _
  have N0 := Fr.nil n0
  refine Go.iloadN X0 hx (hb hby d_er12_0) rfl ?_
  show Go _ _ _ _ s₁ (mkF m 1 #[.val (.ref a), .val (.int (4 : Int32)), .unset] [(.int (4 : Int32))]) _ _ _
  refine Go.aloadN X0 hx (hb hby d_er12_1) rfl rfl ?_
  show Go _ _ _ _ s₁ (mkF m 2 #[.val (.ref a), .val (.int (4 : Int32)), .unset] [(.ref a), (.int (4 : Int32))]) _ _ _
  refine Go.getF X0 hx hZ hown (w11 hw) Via.refl e0 f4 (hb hby d_er12_2) ?_
  intro T66 X66 e66
  show Go _ _ _ _ T66 (mkF m 5 #[.val (.ref a), .val (.int (4 : Int32)), .unset] [(.ref ab), (.int (4 : Int32))]) _ _ _
  refine Go.alen X66 hx hZ e66 f5 (hb hby d_er12_5) ?_
  show Go _ _ _ _ T66 (mkF m 6 #[.val (.ref a), .val (.int (4 : Int32)), .unset] [(.int (256 : Int32)), (.int (4 : Int32))]) _ _ _
  refine Go.aloadN X66 hx (hb hby d_er12_6) rfl rfl ?_
  show Go _ _ _ _ T66 (mkF m 7 #[.val (.ref a), .val (.int (4 : Int32)), .unset] [(.ref a), (.int (256 : Int32)), (.int (4 : Int32))]) _ _ _
  refine Go.getF X66 hx hZ hown (w13 hw) Via.refl e66 f6 (hb hby d_er12_7) ?_
  intro T67 X67 e67
  show Go _ _ _ _ T67 (mkF m 10 #[.val (.ref a), .val (.int (4 : Int32)), .unset] [(.int (12 : Int32)), (.int (256 : Int32)), (.int (4 : Int32))]) _ _ _
  refine Go.isub X67 hx (hb hby d_er12_10) ?_
  show Go _ _ _ _ T67 (mkF m 11 #[.val (.ref a), .val (.int (4 : Int32)), .unset] [(.int (244 : Int32)), (.int (4 : Int32))]) _ _ _
  refine Go.icmpYes X67 hx (hb hby d_er12_11) (XT.ii_le_t (by decide)) (pc' := 45) (by decide) (by decide) ?_
  show Go _ _ _ _ T67 (mkF m 45 #[.val (.ref a), .val (.int (4 : Int32)), .unset] []) _ _ _
  refine Go.ret0 X67 hx hlk hret (hb hby d_er12_45) (by decide) (by decide) ?_
  rw [e67]
  exact ⟨rfl, N0, rfl⟩
def Q_wi12 (Z : State) (a : Addr) (p1 : Int32) (ab : Addr) (kb : ClassId) (g : Nat → Int32) (h0 : Heap) (n0 : Nat) (v : Option Value) (h : Heap) (L : List Loc) : Prop := v = none ∧ Fr n0 L ∧ Keep h0 h [a, ab] ∧ Exa Z h a "com/example/farcall/farcall/XdrWriter" ∧ Fld Z h a "com/example/farcall/farcall/XdrWriter" "bytes" "[B" (.ref ab) ∧ Fld Z h a "com/example/farcall/farcall/XdrWriter" "end" "I" (.int (16 : Int32)) ∧ Af Z h ab kb .byte 256 (fun i => Value.int ((put4 g 12 p1) i))
theorem ef_wi12 (m : MethodId) (x0 : Addr) (x1 : Int32) : entryFrame m #[(.ref x0), (.int x1)] 2 = mkF m 0 #[.val (.ref x0), .val (.int x1)] [] := by first | (simp [entryFrame, mkF, argsToLocals, Value.category]; done) | rfl
set_option maxRecDepth 65536 in
set_option maxHeartbeats 40000000 in
theorem rm_wi12 (l : Launch) (Z : State) (a0 : Array Value) (hw : ∀ d ∈ tables_1, d.before a0 Z = true) (a : Addr) (p1 : Int32) (ab : Addr) (kb : ClassId) (g : Nat → Int32) (h0 : Heap) (n0 : Nat) (Z0 : n0 ≤ h0.size) (f0 : Exa Z h0 a "com/example/farcall/farcall/XdrWriter") (f1 : n0 ≤ a) (f2 : n0 ≤ ab) (f3 : a ≠ ab) (f4 : Fld Z h0 a "com/example/farcall/farcall/XdrWriter" "bytes" "[B" (.ref ab)) (f5 : Af Z h0 ab kb .byte 256 (fun i => Value.int (g i))) (f6 : Fld Z h0 a "com/example/farcall/farcall/XdrWriter" "end" "I" (.int (12 : Int32))) :
    Met l Z (⟨"com/example/farcall/farcall/XdrWriter", "writeInt", "(I)V"⟩ : MethodName) prog_55_method_2_code 2 none [] ({ frames := 1, cells := 0, slots := 0, locals := 14 } : Room) #[(.ref a), (.int p1)] h0 (Q_wi12 Z a p1 ab kb g h0 n0) := by
  refine Met.of (plainFor_of_name pn_wi12) ?_
  intro p e s m below meth c s₁ X0 hx hby hml hZ hown hnm e0 hret hlk
  refine Go.cast (ef_wi12 m a p1) ?_
  show Go _ _ _ _ s₁ (mkF m 0 #[.val (.ref a), .val (.int p1)] []) _ _ _
  have N0 := Fr.nil n0
  refine Go.aloadN X0 hx (hb hby d_wi12_0) rfl rfl ?_
  show Go _ _ _ _ s₁ (mkF m 1 #[.val (.ref a), .val (.int p1)] [(.ref a)]) _ _ _
  refine Go.iconst X0 hx (hb hby d_wi12_1) ?_
  show Go _ _ _ _ s₁ (mkF m 2 #[.val (.ref a), .val (.int p1)] [(.int (4 : Int32)), (.ref a)]) _ _ _
  refine Go.callP (W := 0) (argsL := [(.int (4 : Int32))]) (rest := []) X0 hx hZ hown (w20 hw) (w21 hw) (w22 hw) (w2 hw) (w3 hw) (w23 hw) (by decide) f0 (rm_er12 l Z a0 hw a ab kb g h0 n0 Z0 f0 f1 f2 f3 f4 f5 f6) e0 (lenOf pd_0 rfl) (hb hby d_wi12_2) (by rw [hml]; rfl) rfl (Nat.le_of_eq rfl) (by decide) (by decide) (by decide) (by decide) ?_
  intro v68 T68 L68 X68 q68
  obtain ⟨rfl, M68, e68⟩ := q68
  have N68 := Fr.app N0 M68
  show Go _ _ _ _ T68 (mkF m 5 #[.val (.ref a), .val (.int p1)] []) _ _ _
  refine Go.aloadN X68 hx (hb hby d_wi12_5) rfl rfl ?_
  show Go _ _ _ _ T68 (mkF m 6 #[.val (.ref a), .val (.int p1)] [(.ref a)]) _ _ _
  refine Go.aloadN X68 hx (hb hby d_wi12_6) rfl rfl ?_
  show Go _ _ _ _ T68 (mkF m 7 #[.val (.ref a), .val (.int p1)] [(.ref a), (.ref a)]) _ _ _
  refine Go.getF X68 hx hZ hown (w13 hw) Via.refl e68 f6 (hb hby d_wi12_7) ?_
  intro T69 X69 e69
  show Go _ _ _ _ T69 (mkF m 10 #[.val (.ref a), .val (.int p1)] [(.int (12 : Int32)), (.ref a)]) _ _ _
  refine Go.iloadN X69 hx (hb hby d_wi12_10) rfl ?_
  show Go _ _ _ _ T69 (mkF m 11 #[.val (.ref a), .val (.int p1)] [(.int p1), (.int (12 : Int32)), (.ref a)]) _ _ _
  refine Go.callP (W := 0) (argsL := [(.int (12 : Int32)), (.int p1)]) (rest := []) X69 hx hZ hown (w24 hw) (w25 hw) (w26 hw) (w2 hw) (w3 hw) (w27 hw) (by decide) f0 (rm_pi12 l Z a0 hw a p1 ab kb g h0 n0 Z0 f0 f1 f2 f3 f4 f5) e69 (lenOf pd_1 rfl) (hb hby d_wi12_11) (by rw [hml]; rfl) rfl (Nat.le_of_eq rfl) (by decide) (by decide) (by decide) (by decide) ?_
  intro v70 T70 L70 X70 q70
  obtain ⟨rfl, M70, K70, P70_0⟩ := q70
  have N70 := Fr.app N68 M70
  have Z70 : n0 ≤ T70.heap.size := Nat.le_trans Z0 K70.1
  have B70 : h0.size ≤ T70.heap.size := Nat.le_trans (Nat.le_refl _) K70.1
  show Go _ _ _ _ T70 (mkF m 14 #[.val (.ref a), .val (.int p1)] []) _ _ _
  refine Go.aloadN X70 hx (hb hby d_wi12_14) rfl rfl ?_
  show Go _ _ _ _ T70 (mkF m 15 #[.val (.ref a), .val (.int p1)] [(.ref a)]) _ _ _
  refine Go.dup X70 hx (hb hby d_wi12_15) rfl ?_
  show Go _ _ _ _ T70 (mkF m 16 #[.val (.ref a), .val (.int p1)] [(.ref a), (.ref a)]) _ _ _
  refine Go.getF X70 hx hZ hown (w13 hw) Via.refl rfl (Fld.keep f6 K70 (ninS f3 nin0)) (hb hby d_wi12_16) ?_
  intro T71 X71 e71
  show Go _ _ _ _ T71 (mkF m 19 #[.val (.ref a), .val (.int p1)] [(.int (12 : Int32)), (.ref a)]) _ _ _
  refine Go.iconst X71 hx (hb hby d_wi12_19) ?_
  show Go _ _ _ _ T71 (mkF m 20 #[.val (.ref a), .val (.int p1)] [(.int (4 : Int32)), (.int (12 : Int32)), (.ref a)]) _ _ _
  refine Go.iadd X71 hx (hb hby d_wi12_20) ?_
  show Go _ _ _ _ T71 (mkF m 21 #[.val (.ref a), .val (.int p1)] [(.int (16 : Int32)), (.ref a)]) _ _ _
  refine Go.putF X71 hx hZ hown (w13 hw) Via.refl e71 (Fld.keep f6 K70 (ninS f3 nin0)) (Exa.keep f0 K70) (Or.inl (w14 hw)) (w2 hw) (ty := .int) (by decide) rfl rfl (hb hby d_wi12_21) ?_
  intro T72 h72 X72 e72 W72
  have N72 := Fr.snoc X72 N70 f1
  have Z72 : n0 ≤ h72.size := by rw [Wr.size W72]; exact Z70
  have B72 : h0.size ≤ h72.size := by rw [Wr.size W72]; exact B70
  show Go _ _ _ _ T72 (mkF m 24 #[.val (.ref a), .val (.int p1)] []) _ _ _
  refine Go.ret0 X72 hx hlk hret (hb hby d_wi12_24) (by decide) (by decide) ?_
  rw [e72]
  have F73 := (Fld.other W72 (Fld.keep f4 K70 (ninS f3 nin0)) (Or.inr (slot_ne (a0 := a0) (Or.inl (w12 hw)) (Or.inl (w14 hw)) (t := (.array .byte)) (t' := .int) (by decide) (by decide) (by decide))))
  have F74 := (Fld.same W72 (Fld.keep f6 K70 (ninS f3 nin0)))
  exact ⟨rfl, N72, (Keep.wr (Keep.trans (Keep.refl _ _) K70 (allS (Or.inl (List.mem_of_getElem? (i := 1) rfl)) all0)) W72 (Or.inl (List.mem_of_getElem? (i := 0) rfl))), (Exa.wr W72 (Exa.keep f0 K70)), F73, F74, (Af.other W72 P70_0 (Ne.symm f3))⟩
def Q_wl4 (Z : State) (a : Addr) (q1 : Int64) (ab : Addr) (kb : ClassId) (g : Nat → Int32) (h0 : Heap) (n0 : Nat) (v : Option Value) (h : Heap) (L : List Loc) : Prop := v = none ∧ Fr n0 L ∧ Keep h0 h [a, ab] ∧ Exa Z h a "com/example/farcall/farcall/XdrWriter" ∧ Fld Z h a "com/example/farcall/farcall/XdrWriter" "bytes" "[B" (.ref ab) ∧ Fld Z h a "com/example/farcall/farcall/XdrWriter" "end" "I" (.int (12 : Int32)) ∧ Af Z h ab kb .byte 256 (fun i => Value.int ((put4 (put4 g 4 ((XT.ushrL q1 (32 : Int32)).toInt32)) 8 ((q1).toInt32)) i))
theorem ef_wl4 (m : MethodId) (x0 : Addr) (x1 : Int64) : entryFrame m #[(.ref x0), (.long x1)] 3 = mkF m 0 #[.val (.ref x0), .val (.long x1), .second] [] := by first | (simp [entryFrame, mkF, argsToLocals, Value.category]; done) | rfl
set_option maxRecDepth 65536 in
set_option maxHeartbeats 40000000 in
theorem rm_wl4 (l : Launch) (Z : State) (a0 : Array Value) (hw : ∀ d ∈ tables_1, d.before a0 Z = true) (a : Addr) (q1 : Int64) (ab : Addr) (kb : ClassId) (g : Nat → Int32) (h0 : Heap) (n0 : Nat) (Z0 : n0 ≤ h0.size) (f0 : Exa Z h0 a "com/example/farcall/farcall/XdrWriter") (f1 : n0 ≤ a) (f2 : n0 ≤ ab) (f3 : a ≠ ab) (f4 : Fld Z h0 a "com/example/farcall/farcall/XdrWriter" "bytes" "[B" (.ref ab)) (f5 : Af Z h0 ab kb .byte 256 (fun i => Value.int (g i))) (f6 : Fld Z h0 a "com/example/farcall/farcall/XdrWriter" "end" "I" (.int (4 : Int32))) :
    Met l Z (⟨"com/example/farcall/farcall/XdrWriter", "writeLong", "(J)V"⟩ : MethodName) prog_55_method_3_code 3 none [] ({ frames := 2, cells := 0, slots := 0, locals := 27 } : Room) #[(.ref a), (.long q1)] h0 (Q_wl4 Z a q1 ab kb g h0 n0) := by
  refine Met.of (plainFor_of_name pn_wl4) ?_
  intro p e s m below meth c s₁ X0 hx hby hml hZ hown hnm e0 hret hlk
  refine Go.cast (ef_wl4 m a q1) ?_
  show Go _ _ _ _ s₁ (mkF m 0 #[.val (.ref a), .val (.long q1), .second] []) _ _ _
  have N0 := Fr.nil n0
  refine Go.aloadN X0 hx (hb hby d_wl4_0) rfl rfl ?_
  show Go _ _ _ _ s₁ (mkF m 1 #[.val (.ref a), .val (.long q1), .second] [(.ref a)]) _ _ _
  refine Go.lloadN X0 hx (hb hby d_wl4_1) rfl ?_
  show Go _ _ _ _ s₁ (mkF m 2 #[.val (.ref a), .val (.long q1), .second] [(.long q1), (.ref a)]) _ _ _
  refine Go.bipush X0 hx (hb hby d_wl4_2) ?_
  show Go _ _ _ _ s₁ (mkF m 4 #[.val (.ref a), .val (.long q1), .second] [(.int (32 : Int32)), (.long q1), (.ref a)]) _ _ _
  refine Go.lushr X0 hx (hb hby d_wl4_4) ?_
  show Go _ _ _ _ s₁ (mkF m 5 #[.val (.ref a), .val (.long q1), .second] [(.long (XT.ushrL q1 (32 : Int32))), (.ref a)]) _ _ _
  refine Go.l2i X0 hx (hb hby d_wl4_5) ?_
  show Go _ _ _ _ s₁ (mkF m 6 #[.val (.ref a), .val (.long q1), .second] [(.int (((XT.ushrL q1 (32 : Int32))).toInt32)), (.ref a)]) _ _ _
  refine Go.callV (W := 0) (argsL := [(.int (((XT.ushrL q1 (32 : Int32))).toInt32))]) (rest := []) X0 hx hZ hown (w63 hw) (w16 hw) (w18 hw) (w17 hw) (w3 hw) (w19 hw) (notFace_of_selects (args := #[]) (mvT hZ (w18 hw))) (by decide) f0 (rm_wi4 l Z a0 hw a (((XT.ushrL q1 (32 : Int32))).toInt32) ab kb g h0 n0 Z0 f0 f1 f2 f3 f4 f5 f6) e0 (lenOf pd_0 rfl) (hb hby d_wl4_6) (by rw [hml]; rfl) rfl (Nat.le_of_eq rfl) (by decide) (by decide) (by decide) (by decide) ?_
  intro v75 T75 L75 X75 q75
  obtain ⟨rfl, M75, K75, P75_0, P75_1, P75_2, P75_3⟩ := q75
  have N75 := Fr.app N0 M75
  have Z75 : n0 ≤ T75.heap.size := Nat.le_trans Z0 K75.1
  have B75 : h0.size ≤ T75.heap.size := Nat.le_trans (Nat.le_refl _) K75.1
  show Go _ _ _ _ T75 (mkF m 9 #[.val (.ref a), .val (.long q1), .second] []) _ _ _
  refine Go.aloadN X75 hx (hb hby d_wl4_9) rfl rfl ?_
  show Go _ _ _ _ T75 (mkF m 10 #[.val (.ref a), .val (.long q1), .second] [(.ref a)]) _ _ _
  refine Go.lloadN X75 hx (hb hby d_wl4_10) rfl ?_
  show Go _ _ _ _ T75 (mkF m 11 #[.val (.ref a), .val (.long q1), .second] [(.long q1), (.ref a)]) _ _ _
  refine Go.l2i X75 hx (hb hby d_wl4_11) ?_
  show Go _ _ _ _ T75 (mkF m 12 #[.val (.ref a), .val (.long q1), .second] [(.int ((q1).toInt32)), (.ref a)]) _ _ _
  refine Go.callV (W := 0) (argsL := [(.int ((q1).toInt32))]) (rest := []) X75 hx hZ hown (w63 hw) (w16 hw) (w18 hw) (w17 hw) (w3 hw) (w19 hw) (notFace_of_selects (args := #[]) (mvT hZ (w18 hw))) (by decide) P75_0 (rm_wi8 l Z a0 hw a ((q1).toInt32) ab kb (put4 g 4 (((XT.ushrL q1 (32 : Int32))).toInt32)) T75.heap n0 Z75 P75_0 f1 f2 f3 P75_1 P75_3 P75_2) rfl (lenOf pd_0 rfl) (hb hby d_wl4_12) (by rw [hml]; rfl) rfl (Nat.le_of_eq rfl) (by decide) (by decide) (by decide) (by decide) ?_
  intro v76 T76 L76 X76 q76
  obtain ⟨rfl, M76, K76, P76_0, P76_1, P76_2, P76_3⟩ := q76
  have N76 := Fr.app N75 M76
  have Z76 : n0 ≤ T76.heap.size := Nat.le_trans Z75 K76.1
  have B76 : h0.size ≤ T76.heap.size := Nat.le_trans B75 K76.1
  show Go _ _ _ _ T76 (mkF m 15 #[.val (.ref a), .val (.long q1), .second] []) _ _ _
  refine Go.ret0 X76 hx hlk hret (hb hby d_wl4_15) (by decide) (by decide) ?_
  exact ⟨rfl, N76, (Keep.trans (Keep.trans (Keep.refl _ _) K75 (allS (Or.inl (List.mem_of_getElem? (i := 0) rfl)) (allS (Or.inl (List.mem_of_getElem? (i := 1) rfl)) all0))) K76 (allS (Or.inl (List.mem_of_getElem? (i := 0) rfl)) (allS (Or.inl (List.mem_of_getElem? (i := 1) rfl)) all0))), P76_0, P76_1, P76_2, P76_3⟩
def Q_wl8 (Z : State) (a : Addr) (q1 : Int64) (ab : Addr) (kb : ClassId) (g : Nat → Int32) (h0 : Heap) (n0 : Nat) (v : Option Value) (h : Heap) (L : List Loc) : Prop := v = none ∧ Fr n0 L ∧ Keep h0 h [a, ab] ∧ Exa Z h a "com/example/farcall/farcall/XdrWriter" ∧ Fld Z h a "com/example/farcall/farcall/XdrWriter" "bytes" "[B" (.ref ab) ∧ Fld Z h a "com/example/farcall/farcall/XdrWriter" "end" "I" (.int (16 : Int32)) ∧ Af Z h ab kb .byte 256 (fun i => Value.int ((put4 (put4 g 8 ((XT.ushrL q1 (32 : Int32)).toInt32)) 12 ((q1).toInt32)) i))
theorem ef_wl8 (m : MethodId) (x0 : Addr) (x1 : Int64) : entryFrame m #[(.ref x0), (.long x1)] 3 = mkF m 0 #[.val (.ref x0), .val (.long x1), .second] [] := by first | (simp [entryFrame, mkF, argsToLocals, Value.category]; done) | rfl
set_option maxRecDepth 65536 in
set_option maxHeartbeats 40000000 in
theorem rm_wl8 (l : Launch) (Z : State) (a0 : Array Value) (hw : ∀ d ∈ tables_1, d.before a0 Z = true) (a : Addr) (q1 : Int64) (ab : Addr) (kb : ClassId) (g : Nat → Int32) (h0 : Heap) (n0 : Nat) (Z0 : n0 ≤ h0.size) (f0 : Exa Z h0 a "com/example/farcall/farcall/XdrWriter") (f1 : n0 ≤ a) (f2 : n0 ≤ ab) (f3 : a ≠ ab) (f4 : Fld Z h0 a "com/example/farcall/farcall/XdrWriter" "bytes" "[B" (.ref ab)) (f5 : Af Z h0 ab kb .byte 256 (fun i => Value.int (g i))) (f6 : Fld Z h0 a "com/example/farcall/farcall/XdrWriter" "end" "I" (.int (8 : Int32))) :
    Met l Z (⟨"com/example/farcall/farcall/XdrWriter", "writeLong", "(J)V"⟩ : MethodName) prog_55_method_3_code 3 none [] ({ frames := 2, cells := 0, slots := 0, locals := 27 } : Room) #[(.ref a), (.long q1)] h0 (Q_wl8 Z a q1 ab kb g h0 n0) := by
  refine Met.of (plainFor_of_name pn_wl8) ?_
  intro p e s m below meth c s₁ X0 hx hby hml hZ hown hnm e0 hret hlk
  refine Go.cast (ef_wl8 m a q1) ?_
  show Go _ _ _ _ s₁ (mkF m 0 #[.val (.ref a), .val (.long q1), .second] []) _ _ _
  have N0 := Fr.nil n0
  refine Go.aloadN X0 hx (hb hby d_wl8_0) rfl rfl ?_
  show Go _ _ _ _ s₁ (mkF m 1 #[.val (.ref a), .val (.long q1), .second] [(.ref a)]) _ _ _
  refine Go.lloadN X0 hx (hb hby d_wl8_1) rfl ?_
  show Go _ _ _ _ s₁ (mkF m 2 #[.val (.ref a), .val (.long q1), .second] [(.long q1), (.ref a)]) _ _ _
  refine Go.bipush X0 hx (hb hby d_wl8_2) ?_
  show Go _ _ _ _ s₁ (mkF m 4 #[.val (.ref a), .val (.long q1), .second] [(.int (32 : Int32)), (.long q1), (.ref a)]) _ _ _
  refine Go.lushr X0 hx (hb hby d_wl8_4) ?_
  show Go _ _ _ _ s₁ (mkF m 5 #[.val (.ref a), .val (.long q1), .second] [(.long (XT.ushrL q1 (32 : Int32))), (.ref a)]) _ _ _
  refine Go.l2i X0 hx (hb hby d_wl8_5) ?_
  show Go _ _ _ _ s₁ (mkF m 6 #[.val (.ref a), .val (.long q1), .second] [(.int (((XT.ushrL q1 (32 : Int32))).toInt32)), (.ref a)]) _ _ _
  refine Go.callV (W := 0) (argsL := [(.int (((XT.ushrL q1 (32 : Int32))).toInt32))]) (rest := []) X0 hx hZ hown (w63 hw) (w16 hw) (w18 hw) (w17 hw) (w3 hw) (w19 hw) (notFace_of_selects (args := #[]) (mvT hZ (w18 hw))) (by decide) f0 (rm_wi8 l Z a0 hw a (((XT.ushrL q1 (32 : Int32))).toInt32) ab kb g h0 n0 Z0 f0 f1 f2 f3 f4 f5 f6) e0 (lenOf pd_0 rfl) (hb hby d_wl8_6) (by rw [hml]; rfl) rfl (Nat.le_of_eq rfl) (by decide) (by decide) (by decide) (by decide) ?_
  intro v77 T77 L77 X77 q77
  obtain ⟨rfl, M77, K77, P77_0, P77_1, P77_2, P77_3⟩ := q77
  have N77 := Fr.app N0 M77
  have Z77 : n0 ≤ T77.heap.size := Nat.le_trans Z0 K77.1
  have B77 : h0.size ≤ T77.heap.size := Nat.le_trans (Nat.le_refl _) K77.1
  show Go _ _ _ _ T77 (mkF m 9 #[.val (.ref a), .val (.long q1), .second] []) _ _ _
  refine Go.aloadN X77 hx (hb hby d_wl8_9) rfl rfl ?_
  show Go _ _ _ _ T77 (mkF m 10 #[.val (.ref a), .val (.long q1), .second] [(.ref a)]) _ _ _
  refine Go.lloadN X77 hx (hb hby d_wl8_10) rfl ?_
  show Go _ _ _ _ T77 (mkF m 11 #[.val (.ref a), .val (.long q1), .second] [(.long q1), (.ref a)]) _ _ _
  refine Go.l2i X77 hx (hb hby d_wl8_11) ?_
  show Go _ _ _ _ T77 (mkF m 12 #[.val (.ref a), .val (.long q1), .second] [(.int ((q1).toInt32)), (.ref a)]) _ _ _
  refine Go.callV (W := 0) (argsL := [(.int ((q1).toInt32))]) (rest := []) X77 hx hZ hown (w63 hw) (w16 hw) (w18 hw) (w17 hw) (w3 hw) (w19 hw) (notFace_of_selects (args := #[]) (mvT hZ (w18 hw))) (by decide) P77_0 (rm_wi12 l Z a0 hw a ((q1).toInt32) ab kb (put4 g 8 (((XT.ushrL q1 (32 : Int32))).toInt32)) T77.heap n0 Z77 P77_0 f1 f2 f3 P77_1 P77_3 P77_2) rfl (lenOf pd_0 rfl) (hb hby d_wl8_12) (by rw [hml]; rfl) rfl (Nat.le_of_eq rfl) (by decide) (by decide) (by decide) (by decide) ?_
  intro v78 T78 L78 X78 q78
  obtain ⟨rfl, M78, K78, P78_0, P78_1, P78_2, P78_3⟩ := q78
  have N78 := Fr.app N77 M78
  have Z78 : n0 ≤ T78.heap.size := Nat.le_trans Z77 K78.1
  have B78 : h0.size ≤ T78.heap.size := Nat.le_trans B77 K78.1
  show Go _ _ _ _ T78 (mkF m 15 #[.val (.ref a), .val (.long q1), .second] []) _ _ _
  refine Go.ret0 X78 hx hlk hret (hb hby d_wl8_15) (by decide) (by decide) ?_
  exact ⟨rfl, N78, (Keep.trans (Keep.trans (Keep.refl _ _) K77 (allS (Or.inl (List.mem_of_getElem? (i := 0) rfl)) (allS (Or.inl (List.mem_of_getElem? (i := 1) rfl)) all0))) K78 (allS (Or.inl (List.mem_of_getElem? (i := 0) rfl)) (allS (Or.inl (List.mem_of_getElem? (i := 1) rfl)) all0))), P78_0, P78_1, P78_2, P78_3⟩
def Q_rs (Z : State) (a : Addr) (en : Int32) (ab : Addr) (h0 : Heap) (n0 : Nat) (v : Option Value) (h : Heap) (L : List Loc) : Prop := v = none ∧ Fr n0 L ∧ Keep h0 h [a] ∧ Exa Z h a "com/example/farcall/farcall/XdrWriter" ∧ Fld Z h a "com/example/farcall/farcall/XdrWriter" "end" "I" (.int (4 : Int32)) ∧ Fld Z h a "com/example/farcall/farcall/XdrWriter" "bytes" "[B" (.ref ab)
theorem ef_rs (m : MethodId) (x0 : Addr) : entryFrame m #[(.ref x0)] 1 = mkF m 0 #[.val (.ref x0)] [] := by first | (simp [entryFrame, mkF, argsToLocals, Value.category]; done) | rfl
set_option maxRecDepth 65536 in
set_option maxHeartbeats 40000000 in
theorem rm_rs (l : Launch) (Z : State) (a0 : Array Value) (hw : ∀ d ∈ tables_1, d.before a0 Z = true) (a : Addr) (en : Int32) (ab : Addr) (h0 : Heap) (n0 : Nat) (Z0 : n0 ≤ h0.size) (f0 : Exa Z h0 a "com/example/farcall/farcall/XdrWriter") (f1 : n0 ≤ a) (f2 : Fld Z h0 a "com/example/farcall/farcall/XdrWriter" "end" "I" (.int en)) (f3 : Fld Z h0 a "com/example/farcall/farcall/XdrWriter" "bytes" "[B" (.ref ab)) :
    Met l Z (⟨"com/example/farcall/farcall/XdrWriter", "reset", "()V"⟩ : MethodName) prog_55_method_20_code 1 none [] ({ frames := 0, cells := 0, slots := 0, locals := 0 } : Room) #[(.ref a)] h0 (Q_rs Z a en ab h0 n0) := by
  refine Met.of (plainFor_of_name pn_rs) ?_
  intro p e s m below meth c s₁ X0 hx hby hml hZ hown hnm e0 hret hlk
  refine Go.cast (ef_rs m a) ?_
  show Go _ _ _ _ s₁ (mkF m 0 #[.val (.ref a)] []) _ _ _
  have N0 := Fr.nil n0
  refine Go.aloadN X0 hx (hb hby d_rs_0) rfl rfl ?_
  show Go _ _ _ _ s₁ (mkF m 1 #[.val (.ref a)] [(.ref a)]) _ _ _
  refine Go.iconst X0 hx (hb hby d_rs_1) ?_
  show Go _ _ _ _ s₁ (mkF m 2 #[.val (.ref a)] [(.int (4 : Int32)), (.ref a)]) _ _ _
  refine Go.putF X0 hx hZ hown (w13 hw) Via.refl e0 f2 f0 (Or.inl (w14 hw)) (w2 hw) (ty := .int) (by decide) rfl rfl (hb hby d_rs_2) ?_
  intro T79 h79 X79 e79 W79
  have N79 := Fr.snoc X79 N0 f1
  have Z79 : n0 ≤ h79.size := by rw [Wr.size W79]; exact Z0
  have B79 : h0.size ≤ h79.size := by rw [Wr.size W79]; exact (Nat.le_refl _)
  show Go _ _ _ _ T79 (mkF m 5 #[.val (.ref a)] []) _ _ _
  refine Go.ret0 X79 hx hlk hret (hb hby d_rs_5) (by decide) (by decide) ?_
  rw [e79]
  have F80 := (Fld.other W79 f3 (Or.inr (slot_ne (a0 := a0) (Or.inl (w12 hw)) (Or.inl (w14 hw)) (t := (.array .byte)) (t' := .int) (by decide) (by decide) (by decide))))
  exact ⟨rfl, N79, (Keep.wr (Keep.refl _ _) W79 (Or.inl (List.mem_of_getElem? (i := 0) rfl))), (Exa.wr W79 f0), (Fld.same W79 f2), F80⟩
def Q_cl0 (Z : State)  (h0 : Heap) (n0 : Nat) (v : Option Value) (h : Heap) (L : List Loc) : Prop := v = none ∧ Fr n0 L ∧ h = h0
theorem ef_cl0 (m : MethodId) (x0 : Int32) (x1 : Int32) : entryFrame m #[(.int x0), (.int x1)] 2 = mkF m 0 #[.val (.int x0), .val (.int x1)] [] := by first | (simp [entryFrame, mkF, argsToLocals, Value.category]; done) | rfl
set_option maxRecDepth 65536 in
set_option maxHeartbeats 40000000 in
theorem rm_cl0 (l : Launch) (Z : State) (a0 : Array Value) (hw : ∀ d ∈ tables_1, d.before a0 Z = true)  (h0 : Heap) (n0 : Nat) (Z0 : n0 ≤ h0.size)  :
    Met l Z (⟨"java/util/Arrays", "checkLength", "(II)V"⟩ : MethodName) jdk_65_method_131_code 2 none [] ({ frames := 0, cells := 0, slots := 0, locals := 0 } : Room) #[(.int (4 : Int32)), (.int (4 : Int32))] h0 (Q_cl0 Z  h0 n0) := by
  refine Met.of (plainFor_of_name pn_cl0) ?_
  intro p e s m below meth c s₁ X0 hx hby hml hZ hown hnm e0 hret hlk
  refine Go.cast (ef_cl0 m ((4 : Int32)) ((4 : Int32))) ?_
  show Go _ _ _ _ s₁ (mkF m 0 #[.val (.int (4 : Int32)), .val (.int (4 : Int32))] []) _ _ _
  have N0 := Fr.nil n0
  refine Go.iloadN X0 hx (hb hby d_cl0_0) rfl ?_
  show Go _ _ _ _ s₁ (mkF m 1 #[.val (.int (4 : Int32)), .val (.int (4 : Int32))] [(.int (4 : Int32))]) _ _ _
  refine Go.iloadN X0 hx (hb hby d_cl0_1) rfl ?_
  show Go _ _ _ _ s₁ (mkF m 2 #[.val (.int (4 : Int32)), .val (.int (4 : Int32))] [(.int (4 : Int32)), (.int (4 : Int32))]) _ _ _
  refine Go.icmpYes X0 hx (hb hby d_cl0_2) (XT.ii_ge_t (by decide)) (pc' := 37) (by decide) (by decide) ?_
  show Go _ _ _ _ s₁ (mkF m 37 #[.val (.int (4 : Int32)), .val (.int (4 : Int32))] []) _ _ _
  refine Go.ret0 X0 hx hlk hret (hb hby d_cl0_37) (by decide) (by decide) ?_
  rw [e0]
  exact ⟨rfl, N0, rfl⟩
def Q_cb0 (Z : State) (ab : Addr) (kb : ClassId) (g : Nat → Int32) (h0 : Heap) (n0 : Nat) (v : Option Value) (h : Heap) (L : List Loc) : Prop := ∃ (r : Addr) (kr : ClassId), v = some (.ref r) ∧ Fr n0 L ∧ Keep h0 h [] ∧ n0 ≤ r ∧ h0.size ≤ r ∧ Af Z h r kr .byte 0 (fun i => Value.int (g (i + 4)))
theorem ef_cb0 (m : MethodId) (x0 : Addr) (x1 : Int32) (x2 : Int32) : entryFrame m #[(.ref x0), (.int x1), (.int x2)] 5 = mkF m 0 #[.val (.ref x0), .val (.int x1), .val (.int x2), .unset, .unset] [] := by first | (simp [entryFrame, mkF, argsToLocals, Value.category]; done) | rfl
set_option maxRecDepth 65536 in
set_option maxHeartbeats 40000000 in
theorem rm_cb0 (l : Launch) (Z : State) (a0 : Array Value) (hw : ∀ d ∈ tables_1, d.before a0 Z = true) (ab : Addr) (kb : ClassId) (g : Nat → Int32) (h0 : Heap) (n0 : Nat) (Z0 : n0 ≤ h0.size) (f0 : okB g) (f1 : Af Z h0 ab kb .byte 256 (fun i => Value.int (g i))) :
    Met l Z (⟨"java/util/Arrays", "copyOfRangeByte", "([BII)[B"⟩ : MethodName) jdk_65_method_133_code 5 (Option.some (Jvm.ClassFile.FieldType.array Jvm.ClassFile.FieldType.byte)) [] ({ frames := 1, cells := 1, slots := 0, locals := 18 } : Room) #[(.ref ab), (.int (4 : Int32)), (.int (4 : Int32))] h0 (Q_cb0 Z ab kb g h0 n0) := by
  refine Met.of (plainFor_of_name pn_cb0) ?_
  intro p e s m below meth c s₁ X0 hx hby hml hZ hown hnm e0 hret hlk
  refine Go.cast (ef_cb0 m ab ((4 : Int32)) ((4 : Int32))) ?_
  show Go _ _ _ _ s₁ (mkF m 0 #[.val (.ref ab), .val (.int (4 : Int32)), .val (.int (4 : Int32)), .unset, .unset] []) _ _ _
  have N0 := Fr.nil n0
  refine Go.iloadN X0 hx (hb hby d_cb0_0) rfl ?_
  show Go _ _ _ _ s₁ (mkF m 1 #[.val (.ref ab), .val (.int (4 : Int32)), .val (.int (4 : Int32)), .unset, .unset] [(.int (4 : Int32))]) _ _ _
  refine Go.iloadN X0 hx (hb hby d_cb0_1) rfl ?_
  show Go _ _ _ _ s₁ (mkF m 2 #[.val (.ref ab), .val (.int (4 : Int32)), .val (.int (4 : Int32)), .unset, .unset] [(.int (4 : Int32)), (.int (4 : Int32))]) _ _ _
  refine Go.callS (W := 0) (argsL := [(.int (4 : Int32)), (.int (4 : Int32))]) (rest := []) X0 hx hZ hown (w40 hw) (w41 hw) (w35 hw) (w42 hw) (by decide) (rm_cl0 l Z a0 hw  h0 n0 Z0 ) e0 (lenOf pd_1 rfl) (hb hby d_cb0_2) (by rw [hml]; rfl) rfl (Nat.le_of_eq rfl) (by decide) (by decide) (by decide) (by decide) ?_
  intro v81 T81 L81 X81 q81
  obtain ⟨rfl, M81, e81⟩ := q81
  have N81 := Fr.app N0 M81
  show Go _ _ _ _ T81 (mkF m 5 #[.val (.ref ab), .val (.int (4 : Int32)), .val (.int (4 : Int32)), .unset, .unset] []) _ _ _
  refine Go.iloadN X81 hx (hb hby d_cb0_5) rfl ?_
  show Go _ _ _ _ T81 (mkF m 6 #[.val (.ref ab), .val (.int (4 : Int32)), .val (.int (4 : Int32)), .unset, .unset] [(.int (4 : Int32))]) _ _ _
  refine Go.iloadN X81 hx (hb hby d_cb0_6) rfl ?_
  show Go _ _ _ _ T81 (mkF m 7 #[.val (.ref ab), .val (.int (4 : Int32)), .val (.int (4 : Int32)), .unset, .unset] [(.int (4 : Int32)), (.int (4 : Int32))]) _ _ _
  refine Go.isub X81 hx (hb hby d_cb0_7) ?_
  show Go _ _ _ _ T81 (mkF m 8 #[.val (.ref ab), .val (.int (4 : Int32)), .val (.int (4 : Int32)), .unset, .unset] [(.int (0 : Int32))]) _ _ _
  refine Go.istoreN X81 hx (hb hby d_cb0_8) (l' := #[.val (.ref ab), .val (.int (4 : Int32)), .val (.int (4 : Int32)), .val (.int (0 : Int32)), .unset]) rfl ?_
  show Go _ _ _ _ T81 (mkF m 9 #[.val (.ref ab), .val (.int (4 : Int32)), .val (.int (4 : Int32)), .val (.int (0 : Int32)), .unset] []) _ _ _
  refine Go.iloadN X81 hx (hb hby d_cb0_9) rfl ?_
  show Go _ _ _ _ T81 (mkF m 10 #[.val (.ref ab), .val (.int (4 : Int32)), .val (.int (4 : Int32)), .val (.int (0 : Int32)), .unset] [(.int (0 : Int32))]) _ _ _
  refine Go.newarray (aty := .byte) (cap := 0) X81 hx hZ (w10 hw) e81 (hb hby d_cb0_10) (by decide) (by decide) (by decide) (by decide) (by decide) ?_
  intro T82 h82 a82 k82 b82 X82 e82 E82 A82
  have g_a82 : n0 ≤ a82 := by rw [b82]; exact Z0
  have y_a82 : h0.size ≤ a82 := by rw [b82]; exact (Nat.le_refl _)
  have ne_ab_a82 : ab ≠ a82 := by rw [b82]; exact Nat.ne_of_lt f1.lt
  have Z82 : n0 ≤ h82.size := Nat.le_trans Z0 E82.1
  have B82 : h0.size ≤ h82.size := Nat.le_trans (Nat.le_refl _) E82.1
  show Go _ _ _ _ T82 (mkF m 12 #[.val (.ref ab), .val (.int (4 : Int32)), .val (.int (4 : Int32)), .val (.int (0 : Int32)), .unset] [(.ref a82)]) _ _ _
  refine Go.astore X82 hx (hb hby d_cb0_12) rfl (l' := #[.val (.ref ab), .val (.int (4 : Int32)), .val (.int (4 : Int32)), .val (.int (0 : Int32)), .val (.ref a82)]) rfl ?_
  show Go _ _ _ _ T82 (mkF m 14 #[.val (.ref ab), .val (.int (4 : Int32)), .val (.int (4 : Int32)), .val (.int (0 : Int32)), .val (.ref a82)] []) _ _ _
  refine Go.aloadN X82 hx (hb hby d_cb0_14) rfl rfl ?_
  show Go _ _ _ _ T82 (mkF m 15 #[.val (.ref ab), .val (.int (4 : Int32)), .val (.int (4 : Int32)), .val (.int (0 : Int32)), .val (.ref a82)] [(.ref ab)]) _ _ _
  refine Go.iloadN X82 hx (hb hby d_cb0_15) rfl ?_
  show Go _ _ _ _ T82 (mkF m 16 #[.val (.ref ab), .val (.int (4 : Int32)), .val (.int (4 : Int32)), .val (.int (0 : Int32)), .val (.ref a82)] [(.int (4 : Int32)), (.ref ab)]) _ _ _
  refine Go.aload X82 hx (hb hby d_cb0_16) rfl rfl ?_
  show Go _ _ _ _ T82 (mkF m 18 #[.val (.ref ab), .val (.int (4 : Int32)), .val (.int (4 : Int32)), .val (.int (0 : Int32)), .val (.ref a82)] [(.ref a82), (.int (4 : Int32)), (.ref ab)]) _ _ _
  refine Go.iconst X82 hx (hb hby d_cb0_18) ?_
  show Go _ _ _ _ T82 (mkF m 19 #[.val (.ref ab), .val (.int (4 : Int32)), .val (.int (4 : Int32)), .val (.int (0 : Int32)), .val (.ref a82)] [(.int (0 : Int32)), (.ref a82), (.int (4 : Int32)), (.ref ab)]) _ _ _
  refine Go.aloadN X82 hx (hb hby d_cb0_19) rfl rfl ?_
  show Go _ _ _ _ T82 (mkF m 20 #[.val (.ref ab), .val (.int (4 : Int32)), .val (.int (4 : Int32)), .val (.int (0 : Int32)), .val (.ref a82)] [(.ref ab), (.int (0 : Int32)), (.ref a82), (.int (4 : Int32)), (.ref ab)]) _ _ _
  refine Go.alen X82 hx hZ e82 (Af.ext E82 f1) (hb hby d_cb0_20) ?_
  show Go _ _ _ _ T82 (mkF m 21 #[.val (.ref ab), .val (.int (4 : Int32)), .val (.int (4 : Int32)), .val (.int (0 : Int32)), .val (.ref a82)] [(.int (256 : Int32)), (.int (0 : Int32)), (.ref a82), (.int (4 : Int32)), (.ref ab)]) _ _ _
  refine Go.iloadN X82 hx (hb hby d_cb0_21) rfl ?_
  show Go _ _ _ _ T82 (mkF m 22 #[.val (.ref ab), .val (.int (4 : Int32)), .val (.int (4 : Int32)), .val (.int (0 : Int32)), .val (.ref a82)] [(.int (4 : Int32)), (.int (256 : Int32)), (.int (0 : Int32)), (.ref a82), (.int (4 : Int32)), (.ref ab)]) _ _ _
  refine Go.isub X82 hx (hb hby d_cb0_22) ?_
  show Go _ _ _ _ T82 (mkF m 23 #[.val (.ref ab), .val (.int (4 : Int32)), .val (.int (4 : Int32)), .val (.int (0 : Int32)), .val (.ref a82)] [(.int (252 : Int32)), (.int (0 : Int32)), (.ref a82), (.int (4 : Int32)), (.ref ab)]) _ _ _
  refine Go.iloadN X82 hx (hb hby d_cb0_23) rfl ?_
  show Go _ _ _ _ T82 (mkF m 24 #[.val (.ref ab), .val (.int (4 : Int32)), .val (.int (4 : Int32)), .val (.int (0 : Int32)), .val (.ref a82)] [(.int (0 : Int32)), (.int (252 : Int32)), (.int (0 : Int32)), (.ref a82), (.int (4 : Int32)), (.ref ab)]) _ _ _
  refine Go.callS (W := 4) (argsL := [(.int (252 : Int32)), (.int (0 : Int32))]) (rest := [(.int (0 : Int32)), (.ref a82), (.int (4 : Int32)), (.ref ab)]) X82 hx hZ hown (w43 hw) (w44 hw) (w45 hw) (w46 hw) (by decide) (rm_min l Z a0 hw ((252 : Int32)) ((0 : Int32)) h82) e82 (lenOf pd_2 rfl) (hb hby d_cb0_24) (by rw [hml]; rfl) rfl (Nat.le_of_eq rfl) (by decide) (by decide) (by decide) (by decide) ?_
  intro v83 T83 L83 X83 q83
  obtain ⟨rfl, rfl, e83⟩ := q83
  have N83 := Fr.app N81 (Fr.nil n0)
  show Go _ _ _ _ T83 (mkF m 27 #[.val (.ref ab), .val (.int (4 : Int32)), .val (.int (4 : Int32)), .val (.int (0 : Int32)), .val (.ref a82)] [(.int (F_min (252 : Int32) (0 : Int32))), (.int (0 : Int32)), (.ref a82), (.int (4 : Int32)), (.ref ab)]) _ _ _
  refine Go.acopy (W := 0) X83 hx hZ hown (w47 hw) (w50 hw) (w48 hw) (w49 hw) e83 (Af.ext E82 f1) A82 rfl (fun i _ => f0 i) (fun _ _ => rfl) (by decide) (by decide) (by decide) (by decide) (by decide) N83 g_a82 (hb hby d_cb0_27) (by rw [hml]; rfl) (Nat.le_of_eq rfl) (by decide) (by decide) ?_
  intro T84 h84 L84 X84 e84 N84 K84 A84
  have Z84 : n0 ≤ h84.size := Nat.le_trans Z82 K84.1
  have B84 : h0.size ≤ h84.size := Nat.le_trans B82 K84.1
  have A85 : Af Z h84 a82 k82 .byte 0 (fun i => Value.int (g (i + 4))) := Af.congr A84 (fun i hi => by show Value.int (g (i + 4)) = if 0 ≤ i ∧ i < 0 + 0 then Value.int (g (4 + (i - 0))) else _; rw [if_pos ⟨by omega, by omega⟩, Nat.sub_zero, Nat.add_comm])
  show Go _ _ _ _ T84 (mkF m 30 #[.val (.ref ab), .val (.int (4 : Int32)), .val (.int (4 : Int32)), .val (.int (0 : Int32)), .val (.ref a82)] []) _ _ _
  refine Go.aload X84 hx (hb hby d_cb0_30) rfl rfl ?_
  show Go _ _ _ _ T84 (mkF m 32 #[.val (.ref ab), .val (.int (4 : Int32)), .val (.int (4 : Int32)), .val (.int (0 : Int32)), .val (.ref a82)] [(.ref a82)]) _ _ _
  refine Go.retR X84 hx hlk hret rfl rfl (hb hby d_cb0_32) (by decide) (by decide) ?_
  rw [e84]
  exact ⟨a82, k82, rfl, N84, (Keep.trans (Keep.ext (Keep.refl _ _) E82) K84 (allS (Or.inr y_a82) all0)), g_a82, y_a82, A85⟩
def Q_cr0 (Z : State) (ab : Addr) (kb : ClassId) (g : Nat → Int32) (h0 : Heap) (n0 : Nat) (v : Option Value) (h : Heap) (L : List Loc) : Prop := ∃ (r : Addr) (kr : ClassId), v = some (.ref r) ∧ Fr n0 L ∧ Keep h0 h [] ∧ n0 ≤ r ∧ h0.size ≤ r ∧ Af Z h r kr .byte 0 (fun i => Value.int (g (i + 4)))
theorem ef_cr0 (m : MethodId) (x0 : Addr) (x1 : Int32) (x2 : Int32) : entryFrame m #[(.ref x0), (.int x1), (.int x2)] 3 = mkF m 0 #[.val (.ref x0), .val (.int x1), .val (.int x2)] [] := by first | (simp [entryFrame, mkF, argsToLocals, Value.category]; done) | rfl
set_option maxRecDepth 65536 in
set_option maxHeartbeats 40000000 in
theorem rm_cr0 (l : Launch) (Z : State) (a0 : Array Value) (hw : ∀ d ∈ tables_1, d.before a0 Z = true) (ab : Addr) (kb : ClassId) (g : Nat → Int32) (h0 : Heap) (n0 : Nat) (Z0 : n0 ≤ h0.size) (f0 : okB g) (f1 : Af Z h0 ab kb .byte 256 (fun i => Value.int (g i))) :
    Met l Z (⟨"java/util/Arrays", "copyOfRange", "([BII)[B"⟩ : MethodName) jdk_65_method_132_code 3 (Option.some (Jvm.ClassFile.FieldType.array Jvm.ClassFile.FieldType.byte)) [] ({ frames := 2, cells := 1, slots := 0, locals := 34 } : Room) #[(.ref ab), (.int (4 : Int32)), (.int (4 : Int32))] h0 (Q_cr0 Z ab kb g h0 n0) := by
  refine Met.of (plainFor_of_name pn_cr0) ?_
  intro p e s m below meth c s₁ X0 hx hby hml hZ hown hnm e0 hret hlk
  refine Go.cast (ef_cr0 m ab ((4 : Int32)) ((4 : Int32))) ?_
  show Go _ _ _ _ s₁ (mkF m 0 #[.val (.ref ab), .val (.int (4 : Int32)), .val (.int (4 : Int32))] []) _ _ _
  have N0 := Fr.nil n0
  refine Go.iloadN X0 hx (hb hby d_cr0_0) rfl ?_
  show Go _ _ _ _ s₁ (mkF m 1 #[.val (.ref ab), .val (.int (4 : Int32)), .val (.int (4 : Int32))] [(.int (4 : Int32))]) _ _ _
  refine Go.ifYes X0 hx (hb hby d_cr0_1) (XT.i0_ne_t (by decide)) (pc' := 10) (by decide) (by decide) ?_
  show Go _ _ _ _ s₁ (mkF m 10 #[.val (.ref ab), .val (.int (4 : Int32)), .val (.int (4 : Int32))] []) _ _ _
  refine Go.aloadN X0 hx (hb hby d_cr0_10) rfl rfl ?_
  show Go _ _ _ _ s₁ (mkF m 11 #[.val (.ref ab), .val (.int (4 : Int32)), .val (.int (4 : Int32))] [(.ref ab)]) _ _ _
  refine Go.iloadN X0 hx (hb hby d_cr0_11) rfl ?_
  show Go _ _ _ _ s₁ (mkF m 12 #[.val (.ref ab), .val (.int (4 : Int32)), .val (.int (4 : Int32))] [(.int (4 : Int32)), (.ref ab)]) _ _ _
  refine Go.iloadN X0 hx (hb hby d_cr0_12) rfl ?_
  show Go _ _ _ _ s₁ (mkF m 13 #[.val (.ref ab), .val (.int (4 : Int32)), .val (.int (4 : Int32))] [(.int (4 : Int32)), (.int (4 : Int32)), (.ref ab)]) _ _ _
  refine Go.callS (W := 0) (argsL := [(.ref ab), (.int (4 : Int32)), (.int (4 : Int32))]) (rest := []) X0 hx hZ hown (w37 hw) (w38 hw) (w35 hw) (w39 hw) (by decide) (rm_cb0 l Z a0 hw ab kb g h0 n0 Z0 f0 f1) e0 (lenOf pd_3 rfl) (hb hby d_cr0_13) (by rw [hml]; rfl) rfl (Nat.le_of_eq rfl) (by decide) (by decide) (by decide) (by decide) ?_
  intro v86 T86 L86 X86 q86
  obtain ⟨r86, kr86, rfl, M86, K86, P86_0, P86_1, P86_2⟩ := q86
  have N86 := Fr.app N0 M86
  have Z86 : n0 ≤ T86.heap.size := Nat.le_trans Z0 K86.1
  have B86 : h0.size ≤ T86.heap.size := Nat.le_trans (Nat.le_refl _) K86.1
  have ne_ab_r86 : ab ≠ r86 := Nat.ne_of_lt (Nat.lt_of_lt_of_le (f1).lt P86_1)
  show Go _ _ _ _ T86 (mkF m 16 #[.val (.ref ab), .val (.int (4 : Int32)), .val (.int (4 : Int32))] [(.ref r86)]) _ _ _
  refine Go.retR X86 hx hlk hret rfl rfl (hb hby d_cr0_16) (by decide) (by decide) ?_
  exact ⟨r86, kr86, rfl, N86, (Keep.trans (Keep.refl _ _) K86 all0), P86_0, (Nat.le_trans (Nat.le_refl _) P86_1), P86_2⟩
def Q_tb0 (Z : State) (a : Addr) (ab : Addr) (kb : ClassId) (g : Nat → Int32) (h0 : Heap) (n0 : Nat) (v : Option Value) (h : Heap) (L : List Loc) : Prop := ∃ (r : Addr) (kr : ClassId), v = some (.ref r) ∧ Fr n0 L ∧ Keep h0 h [] ∧ n0 ≤ r ∧ h0.size ≤ r ∧ Af Z h r kr .byte 0 (fun i => Value.int (g (i + 4)))
theorem ef_tb0 (m : MethodId) (x0 : Addr) : entryFrame m #[(.ref x0)] 1 = mkF m 0 #[.val (.ref x0)] [] := by first | (simp [entryFrame, mkF, argsToLocals, Value.category]; done) | rfl
set_option maxRecDepth 65536 in
set_option maxHeartbeats 40000000 in
theorem rm_tb0 (l : Launch) (Z : State) (a0 : Array Value) (hw : ∀ d ∈ tables_1, d.before a0 Z = true) (a : Addr) (ab : Addr) (kb : ClassId) (g : Nat → Int32) (h0 : Heap) (n0 : Nat) (Z0 : n0 ≤ h0.size) (f0 : okB g) (f1 : Fld Z h0 a "com/example/farcall/farcall/XdrWriter" "bytes" "[B" (.ref ab)) (f2 : Fld Z h0 a "com/example/farcall/farcall/XdrWriter" "end" "I" (.int (4 : Int32))) (f3 : Af Z h0 ab kb .byte 256 (fun i => Value.int (g i))) :
    Met l Z (⟨"com/example/farcall/farcall/XdrWriter", "toByteArray", "()[B"⟩ : MethodName) prog_55_method_19_code 1 (Option.some (Jvm.ClassFile.FieldType.array Jvm.ClassFile.FieldType.byte)) [] ({ frames := 3, cells := 1, slots := 0, locals := 48 } : Room) #[(.ref a)] h0 (Q_tb0 Z a ab kb g h0 n0) := by
  refine Met.of (plainFor_of_name pn_tb0) ?_
  intro p e s m below meth c s₁ X0 hx hby hml hZ hown hnm e0 hret hlk
  refine Go.cast (ef_tb0 m a) ?_
  show Go _ _ _ _ s₁ (mkF m 0 #[.val (.ref a)] []) _ _ _
  have N0 := Fr.nil n0
  refine Go.aloadN X0 hx (hb hby d_tb0_0) rfl rfl ?_
  show Go _ _ _ _ s₁ (mkF m 1 #[.val (.ref a)] [(.ref a)]) _ _ _
  refine Go.getF X0 hx hZ hown (w11 hw) Via.refl e0 f1 (hb hby d_tb0_1) ?_
  intro T87 X87 e87
  show Go _ _ _ _ T87 (mkF m 4 #[.val (.ref a)] [(.ref ab)]) _ _ _
  refine Go.iconst X87 hx (hb hby d_tb0_4) ?_
  show Go _ _ _ _ T87 (mkF m 5 #[.val (.ref a)] [(.int (4 : Int32)), (.ref ab)]) _ _ _
  refine Go.aloadN X87 hx (hb hby d_tb0_5) rfl rfl ?_
  show Go _ _ _ _ T87 (mkF m 6 #[.val (.ref a)] [(.ref a), (.int (4 : Int32)), (.ref ab)]) _ _ _
  refine Go.getF X87 hx hZ hown (w13 hw) Via.refl e87 f2 (hb hby d_tb0_6) ?_
  intro T88 X88 e88
  show Go _ _ _ _ T88 (mkF m 9 #[.val (.ref a)] [(.int (4 : Int32)), (.int (4 : Int32)), (.ref ab)]) _ _ _
  refine Go.callS (W := 0) (argsL := [(.ref ab), (.int (4 : Int32)), (.int (4 : Int32))]) (rest := []) X88 hx hZ hown (w33 hw) (w34 hw) (w35 hw) (w36 hw) (by decide) (rm_cr0 l Z a0 hw ab kb g h0 n0 Z0 f0 f3) e88 (lenOf pd_3 rfl) (hb hby d_tb0_9) (by rw [hml]; rfl) rfl (Nat.le_of_eq rfl) (by decide) (by decide) (by decide) (by decide) ?_
  intro v89 T89 L89 X89 q89
  obtain ⟨r89, kr89, rfl, M89, K89, P89_0, P89_1, P89_2⟩ := q89
  have N89 := Fr.app N0 M89
  have Z89 : n0 ≤ T89.heap.size := Nat.le_trans Z0 K89.1
  have B89 : h0.size ≤ T89.heap.size := Nat.le_trans (Nat.le_refl _) K89.1
  have ne_ab_r89 : ab ≠ r89 := Nat.ne_of_lt (Nat.lt_of_lt_of_le (f3).lt P89_1)
  show Go _ _ _ _ T89 (mkF m 12 #[.val (.ref a)] [(.ref r89)]) _ _ _
  refine Go.retR X89 hx hlk hret rfl rfl (hb hby d_tb0_12) (by decide) (by decide) ?_
  exact ⟨r89, kr89, rfl, N89, (Keep.trans (Keep.refl _ _) K89 all0), P89_0, (Nat.le_trans (Nat.le_refl _) P89_1), P89_2⟩
def Q_cl1 (Z : State)  (h0 : Heap) (n0 : Nat) (v : Option Value) (h : Heap) (L : List Loc) : Prop := v = none ∧ Fr n0 L ∧ h = h0
theorem ef_cl1 (m : MethodId) (x0 : Int32) (x1 : Int32) : entryFrame m #[(.int x0), (.int x1)] 2 = mkF m 0 #[.val (.int x0), .val (.int x1)] [] := by first | (simp [entryFrame, mkF, argsToLocals, Value.category]; done) | rfl
set_option maxRecDepth 65536 in
set_option maxHeartbeats 40000000 in
theorem rm_cl1 (l : Launch) (Z : State) (a0 : Array Value) (hw : ∀ d ∈ tables_1, d.before a0 Z = true)  (h0 : Heap) (n0 : Nat) (Z0 : n0 ≤ h0.size)  :
    Met l Z (⟨"java/util/Arrays", "checkLength", "(II)V"⟩ : MethodName) jdk_65_method_131_code 2 none [] ({ frames := 0, cells := 0, slots := 0, locals := 0 } : Room) #[(.int (4 : Int32)), (.int (8 : Int32))] h0 (Q_cl1 Z  h0 n0) := by
  refine Met.of (plainFor_of_name pn_cl1) ?_
  intro p e s m below meth c s₁ X0 hx hby hml hZ hown hnm e0 hret hlk
  refine Go.cast (ef_cl1 m ((4 : Int32)) ((8 : Int32))) ?_
  show Go _ _ _ _ s₁ (mkF m 0 #[.val (.int (4 : Int32)), .val (.int (8 : Int32))] []) _ _ _
  have N0 := Fr.nil n0
  refine Go.iloadN X0 hx (hb hby d_cl1_0) rfl ?_
  show Go _ _ _ _ s₁ (mkF m 1 #[.val (.int (4 : Int32)), .val (.int (8 : Int32))] [(.int (8 : Int32))]) _ _ _
  refine Go.iloadN X0 hx (hb hby d_cl1_1) rfl ?_
  show Go _ _ _ _ s₁ (mkF m 2 #[.val (.int (4 : Int32)), .val (.int (8 : Int32))] [(.int (4 : Int32)), (.int (8 : Int32))]) _ _ _
  refine Go.icmpYes X0 hx (hb hby d_cl1_2) (XT.ii_ge_t (by decide)) (pc' := 37) (by decide) (by decide) ?_
  show Go _ _ _ _ s₁ (mkF m 37 #[.val (.int (4 : Int32)), .val (.int (8 : Int32))] []) _ _ _
  refine Go.ret0 X0 hx hlk hret (hb hby d_cl1_37) (by decide) (by decide) ?_
  rw [e0]
  exact ⟨rfl, N0, rfl⟩
def Q_cb1 (Z : State) (ab : Addr) (kb : ClassId) (g : Nat → Int32) (h0 : Heap) (n0 : Nat) (v : Option Value) (h : Heap) (L : List Loc) : Prop := ∃ (r : Addr) (kr : ClassId), v = some (.ref r) ∧ Fr n0 L ∧ Keep h0 h [] ∧ n0 ≤ r ∧ h0.size ≤ r ∧ Af Z h r kr .byte 4 (fun i => Value.int (g (i + 4)))
theorem ef_cb1 (m : MethodId) (x0 : Addr) (x1 : Int32) (x2 : Int32) : entryFrame m #[(.ref x0), (.int x1), (.int x2)] 5 = mkF m 0 #[.val (.ref x0), .val (.int x1), .val (.int x2), .unset, .unset] [] := by first | (simp [entryFrame, mkF, argsToLocals, Value.category]; done) | rfl
set_option maxRecDepth 65536 in
set_option maxHeartbeats 40000000 in
theorem rm_cb1 (l : Launch) (Z : State) (a0 : Array Value) (hw : ∀ d ∈ tables_1, d.before a0 Z = true) (ab : Addr) (kb : ClassId) (g : Nat → Int32) (h0 : Heap) (n0 : Nat) (Z0 : n0 ≤ h0.size) (f0 : okB g) (f1 : Af Z h0 ab kb .byte 256 (fun i => Value.int (g i))) :
    Met l Z (⟨"java/util/Arrays", "copyOfRangeByte", "([BII)[B"⟩ : MethodName) jdk_65_method_133_code 5 (Option.some (Jvm.ClassFile.FieldType.array Jvm.ClassFile.FieldType.byte)) [] ({ frames := 1, cells := 1, slots := 4, locals := 18 } : Room) #[(.ref ab), (.int (4 : Int32)), (.int (8 : Int32))] h0 (Q_cb1 Z ab kb g h0 n0) := by
  refine Met.of (plainFor_of_name pn_cb1) ?_
  intro p e s m below meth c s₁ X0 hx hby hml hZ hown hnm e0 hret hlk
  refine Go.cast (ef_cb1 m ab ((4 : Int32)) ((8 : Int32))) ?_
  show Go _ _ _ _ s₁ (mkF m 0 #[.val (.ref ab), .val (.int (4 : Int32)), .val (.int (8 : Int32)), .unset, .unset] []) _ _ _
  have N0 := Fr.nil n0
  refine Go.iloadN X0 hx (hb hby d_cb1_0) rfl ?_
  show Go _ _ _ _ s₁ (mkF m 1 #[.val (.ref ab), .val (.int (4 : Int32)), .val (.int (8 : Int32)), .unset, .unset] [(.int (4 : Int32))]) _ _ _
  refine Go.iloadN X0 hx (hb hby d_cb1_1) rfl ?_
  show Go _ _ _ _ s₁ (mkF m 2 #[.val (.ref ab), .val (.int (4 : Int32)), .val (.int (8 : Int32)), .unset, .unset] [(.int (8 : Int32)), (.int (4 : Int32))]) _ _ _
  refine Go.callS (W := 0) (argsL := [(.int (4 : Int32)), (.int (8 : Int32))]) (rest := []) X0 hx hZ hown (w40 hw) (w41 hw) (w35 hw) (w42 hw) (by decide) (rm_cl1 l Z a0 hw  h0 n0 Z0 ) e0 (lenOf pd_1 rfl) (hb hby d_cb1_2) (by rw [hml]; rfl) rfl (Nat.le_of_eq rfl) (by decide) (by decide) (by decide) (by decide) ?_
  intro v90 T90 L90 X90 q90
  obtain ⟨rfl, M90, e90⟩ := q90
  have N90 := Fr.app N0 M90
  show Go _ _ _ _ T90 (mkF m 5 #[.val (.ref ab), .val (.int (4 : Int32)), .val (.int (8 : Int32)), .unset, .unset] []) _ _ _
  refine Go.iloadN X90 hx (hb hby d_cb1_5) rfl ?_
  show Go _ _ _ _ T90 (mkF m 6 #[.val (.ref ab), .val (.int (4 : Int32)), .val (.int (8 : Int32)), .unset, .unset] [(.int (8 : Int32))]) _ _ _
  refine Go.iloadN X90 hx (hb hby d_cb1_6) rfl ?_
  show Go _ _ _ _ T90 (mkF m 7 #[.val (.ref ab), .val (.int (4 : Int32)), .val (.int (8 : Int32)), .unset, .unset] [(.int (4 : Int32)), (.int (8 : Int32))]) _ _ _
  refine Go.isub X90 hx (hb hby d_cb1_7) ?_
  show Go _ _ _ _ T90 (mkF m 8 #[.val (.ref ab), .val (.int (4 : Int32)), .val (.int (8 : Int32)), .unset, .unset] [(.int (4 : Int32))]) _ _ _
  refine Go.istoreN X90 hx (hb hby d_cb1_8) (l' := #[.val (.ref ab), .val (.int (4 : Int32)), .val (.int (8 : Int32)), .val (.int (4 : Int32)), .unset]) rfl ?_
  show Go _ _ _ _ T90 (mkF m 9 #[.val (.ref ab), .val (.int (4 : Int32)), .val (.int (8 : Int32)), .val (.int (4 : Int32)), .unset] []) _ _ _
  refine Go.iloadN X90 hx (hb hby d_cb1_9) rfl ?_
  show Go _ _ _ _ T90 (mkF m 10 #[.val (.ref ab), .val (.int (4 : Int32)), .val (.int (8 : Int32)), .val (.int (4 : Int32)), .unset] [(.int (4 : Int32))]) _ _ _
  refine Go.newarray (aty := .byte) (cap := 4) X90 hx hZ (w10 hw) e90 (hb hby d_cb1_10) (by decide) (by decide) (by decide) (by decide) (by decide) ?_
  intro T91 h91 a91 k91 b91 X91 e91 E91 A91
  have g_a91 : n0 ≤ a91 := by rw [b91]; exact Z0
  have y_a91 : h0.size ≤ a91 := by rw [b91]; exact (Nat.le_refl _)
  have ne_ab_a91 : ab ≠ a91 := by rw [b91]; exact Nat.ne_of_lt f1.lt
  have Z91 : n0 ≤ h91.size := Nat.le_trans Z0 E91.1
  have B91 : h0.size ≤ h91.size := Nat.le_trans (Nat.le_refl _) E91.1
  show Go _ _ _ _ T91 (mkF m 12 #[.val (.ref ab), .val (.int (4 : Int32)), .val (.int (8 : Int32)), .val (.int (4 : Int32)), .unset] [(.ref a91)]) _ _ _
  refine Go.astore X91 hx (hb hby d_cb1_12) rfl (l' := #[.val (.ref ab), .val (.int (4 : Int32)), .val (.int (8 : Int32)), .val (.int (4 : Int32)), .val (.ref a91)]) rfl ?_
  show Go _ _ _ _ T91 (mkF m 14 #[.val (.ref ab), .val (.int (4 : Int32)), .val (.int (8 : Int32)), .val (.int (4 : Int32)), .val (.ref a91)] []) _ _ _
  refine Go.aloadN X91 hx (hb hby d_cb1_14) rfl rfl ?_
  show Go _ _ _ _ T91 (mkF m 15 #[.val (.ref ab), .val (.int (4 : Int32)), .val (.int (8 : Int32)), .val (.int (4 : Int32)), .val (.ref a91)] [(.ref ab)]) _ _ _
  refine Go.iloadN X91 hx (hb hby d_cb1_15) rfl ?_
  show Go _ _ _ _ T91 (mkF m 16 #[.val (.ref ab), .val (.int (4 : Int32)), .val (.int (8 : Int32)), .val (.int (4 : Int32)), .val (.ref a91)] [(.int (4 : Int32)), (.ref ab)]) _ _ _
  refine Go.aload X91 hx (hb hby d_cb1_16) rfl rfl ?_
  show Go _ _ _ _ T91 (mkF m 18 #[.val (.ref ab), .val (.int (4 : Int32)), .val (.int (8 : Int32)), .val (.int (4 : Int32)), .val (.ref a91)] [(.ref a91), (.int (4 : Int32)), (.ref ab)]) _ _ _
  refine Go.iconst X91 hx (hb hby d_cb1_18) ?_
  show Go _ _ _ _ T91 (mkF m 19 #[.val (.ref ab), .val (.int (4 : Int32)), .val (.int (8 : Int32)), .val (.int (4 : Int32)), .val (.ref a91)] [(.int (0 : Int32)), (.ref a91), (.int (4 : Int32)), (.ref ab)]) _ _ _
  refine Go.aloadN X91 hx (hb hby d_cb1_19) rfl rfl ?_
  show Go _ _ _ _ T91 (mkF m 20 #[.val (.ref ab), .val (.int (4 : Int32)), .val (.int (8 : Int32)), .val (.int (4 : Int32)), .val (.ref a91)] [(.ref ab), (.int (0 : Int32)), (.ref a91), (.int (4 : Int32)), (.ref ab)]) _ _ _
  refine Go.alen X91 hx hZ e91 (Af.ext E91 f1) (hb hby d_cb1_20) ?_
  show Go _ _ _ _ T91 (mkF m 21 #[.val (.ref ab), .val (.int (4 : Int32)), .val (.int (8 : Int32)), .val (.int (4 : Int32)), .val (.ref a91)] [(.int (256 : Int32)), (.int (0 : Int32)), (.ref a91), (.int (4 : Int32)), (.ref ab)]) _ _ _
  refine Go.iloadN X91 hx (hb hby d_cb1_21) rfl ?_
  show Go _ _ _ _ T91 (mkF m 22 #[.val (.ref ab), .val (.int (4 : Int32)), .val (.int (8 : Int32)), .val (.int (4 : Int32)), .val (.ref a91)] [(.int (4 : Int32)), (.int (256 : Int32)), (.int (0 : Int32)), (.ref a91), (.int (4 : Int32)), (.ref ab)]) _ _ _
  refine Go.isub X91 hx (hb hby d_cb1_22) ?_
  show Go _ _ _ _ T91 (mkF m 23 #[.val (.ref ab), .val (.int (4 : Int32)), .val (.int (8 : Int32)), .val (.int (4 : Int32)), .val (.ref a91)] [(.int (252 : Int32)), (.int (0 : Int32)), (.ref a91), (.int (4 : Int32)), (.ref ab)]) _ _ _
  refine Go.iloadN X91 hx (hb hby d_cb1_23) rfl ?_
  show Go _ _ _ _ T91 (mkF m 24 #[.val (.ref ab), .val (.int (4 : Int32)), .val (.int (8 : Int32)), .val (.int (4 : Int32)), .val (.ref a91)] [(.int (4 : Int32)), (.int (252 : Int32)), (.int (0 : Int32)), (.ref a91), (.int (4 : Int32)), (.ref ab)]) _ _ _
  refine Go.callS (W := 4) (argsL := [(.int (252 : Int32)), (.int (4 : Int32))]) (rest := [(.int (0 : Int32)), (.ref a91), (.int (4 : Int32)), (.ref ab)]) X91 hx hZ hown (w43 hw) (w44 hw) (w45 hw) (w46 hw) (by decide) (rm_min l Z a0 hw ((252 : Int32)) ((4 : Int32)) h91) e91 (lenOf pd_2 rfl) (hb hby d_cb1_24) (by rw [hml]; rfl) rfl (Nat.le_of_eq rfl) (by decide) (by decide) (by decide) (by decide) ?_
  intro v92 T92 L92 X92 q92
  obtain ⟨rfl, rfl, e92⟩ := q92
  have N92 := Fr.app N90 (Fr.nil n0)
  show Go _ _ _ _ T92 (mkF m 27 #[.val (.ref ab), .val (.int (4 : Int32)), .val (.int (8 : Int32)), .val (.int (4 : Int32)), .val (.ref a91)] [(.int (F_min (252 : Int32) (4 : Int32))), (.int (0 : Int32)), (.ref a91), (.int (4 : Int32)), (.ref ab)]) _ _ _
  refine Go.acopy (W := 0) X92 hx hZ hown (w47 hw) (w50 hw) (w48 hw) (w49 hw) e92 (Af.ext E91 f1) A91 rfl (fun i _ => f0 i) (fun _ _ => rfl) (by decide) (by decide) (by decide) (by decide) (by decide) N92 g_a91 (hb hby d_cb1_27) (by rw [hml]; rfl) (Nat.le_of_eq rfl) (by decide) (by decide) ?_
  intro T93 h93 L93 X93 e93 N93 K93 A93
  have Z93 : n0 ≤ h93.size := Nat.le_trans Z91 K93.1
  have B93 : h0.size ≤ h93.size := Nat.le_trans B91 K93.1
  have A94 : Af Z h93 a91 k91 .byte 4 (fun i => Value.int (g (i + 4))) := Af.congr A93 (fun i hi => by show Value.int (g (i + 4)) = if 0 ≤ i ∧ i < 0 + 4 then Value.int (g (4 + (i - 0))) else _; rw [if_pos ⟨by omega, by omega⟩, Nat.sub_zero, Nat.add_comm])
  show Go _ _ _ _ T93 (mkF m 30 #[.val (.ref ab), .val (.int (4 : Int32)), .val (.int (8 : Int32)), .val (.int (4 : Int32)), .val (.ref a91)] []) _ _ _
  refine Go.aload X93 hx (hb hby d_cb1_30) rfl rfl ?_
  show Go _ _ _ _ T93 (mkF m 32 #[.val (.ref ab), .val (.int (4 : Int32)), .val (.int (8 : Int32)), .val (.int (4 : Int32)), .val (.ref a91)] [(.ref a91)]) _ _ _
  refine Go.retR X93 hx hlk hret rfl rfl (hb hby d_cb1_32) (by decide) (by decide) ?_
  rw [e93]
  exact ⟨a91, k91, rfl, N93, (Keep.trans (Keep.ext (Keep.refl _ _) E91) K93 (allS (Or.inr y_a91) all0)), g_a91, y_a91, A94⟩
def Q_cr1 (Z : State) (ab : Addr) (kb : ClassId) (g : Nat → Int32) (h0 : Heap) (n0 : Nat) (v : Option Value) (h : Heap) (L : List Loc) : Prop := ∃ (r : Addr) (kr : ClassId), v = some (.ref r) ∧ Fr n0 L ∧ Keep h0 h [] ∧ n0 ≤ r ∧ h0.size ≤ r ∧ Af Z h r kr .byte 4 (fun i => Value.int (g (i + 4)))
theorem ef_cr1 (m : MethodId) (x0 : Addr) (x1 : Int32) (x2 : Int32) : entryFrame m #[(.ref x0), (.int x1), (.int x2)] 3 = mkF m 0 #[.val (.ref x0), .val (.int x1), .val (.int x2)] [] := by first | (simp [entryFrame, mkF, argsToLocals, Value.category]; done) | rfl
set_option maxRecDepth 65536 in
set_option maxHeartbeats 40000000 in
theorem rm_cr1 (l : Launch) (Z : State) (a0 : Array Value) (hw : ∀ d ∈ tables_1, d.before a0 Z = true) (ab : Addr) (kb : ClassId) (g : Nat → Int32) (h0 : Heap) (n0 : Nat) (Z0 : n0 ≤ h0.size) (f0 : okB g) (f1 : Af Z h0 ab kb .byte 256 (fun i => Value.int (g i))) :
    Met l Z (⟨"java/util/Arrays", "copyOfRange", "([BII)[B"⟩ : MethodName) jdk_65_method_132_code 3 (Option.some (Jvm.ClassFile.FieldType.array Jvm.ClassFile.FieldType.byte)) [] ({ frames := 2, cells := 1, slots := 4, locals := 34 } : Room) #[(.ref ab), (.int (4 : Int32)), (.int (8 : Int32))] h0 (Q_cr1 Z ab kb g h0 n0) := by
  refine Met.of (plainFor_of_name pn_cr1) ?_
  intro p e s m below meth c s₁ X0 hx hby hml hZ hown hnm e0 hret hlk
  refine Go.cast (ef_cr1 m ab ((4 : Int32)) ((8 : Int32))) ?_
  show Go _ _ _ _ s₁ (mkF m 0 #[.val (.ref ab), .val (.int (4 : Int32)), .val (.int (8 : Int32))] []) _ _ _
  have N0 := Fr.nil n0
  refine Go.iloadN X0 hx (hb hby d_cr1_0) rfl ?_
  show Go _ _ _ _ s₁ (mkF m 1 #[.val (.ref ab), .val (.int (4 : Int32)), .val (.int (8 : Int32))] [(.int (4 : Int32))]) _ _ _
  refine Go.ifYes X0 hx (hb hby d_cr1_1) (XT.i0_ne_t (by decide)) (pc' := 10) (by decide) (by decide) ?_
  show Go _ _ _ _ s₁ (mkF m 10 #[.val (.ref ab), .val (.int (4 : Int32)), .val (.int (8 : Int32))] []) _ _ _
  refine Go.aloadN X0 hx (hb hby d_cr1_10) rfl rfl ?_
  show Go _ _ _ _ s₁ (mkF m 11 #[.val (.ref ab), .val (.int (4 : Int32)), .val (.int (8 : Int32))] [(.ref ab)]) _ _ _
  refine Go.iloadN X0 hx (hb hby d_cr1_11) rfl ?_
  show Go _ _ _ _ s₁ (mkF m 12 #[.val (.ref ab), .val (.int (4 : Int32)), .val (.int (8 : Int32))] [(.int (4 : Int32)), (.ref ab)]) _ _ _
  refine Go.iloadN X0 hx (hb hby d_cr1_12) rfl ?_
  show Go _ _ _ _ s₁ (mkF m 13 #[.val (.ref ab), .val (.int (4 : Int32)), .val (.int (8 : Int32))] [(.int (8 : Int32)), (.int (4 : Int32)), (.ref ab)]) _ _ _
  refine Go.callS (W := 0) (argsL := [(.ref ab), (.int (4 : Int32)), (.int (8 : Int32))]) (rest := []) X0 hx hZ hown (w37 hw) (w38 hw) (w35 hw) (w39 hw) (by decide) (rm_cb1 l Z a0 hw ab kb g h0 n0 Z0 f0 f1) e0 (lenOf pd_3 rfl) (hb hby d_cr1_13) (by rw [hml]; rfl) rfl (Nat.le_of_eq rfl) (by decide) (by decide) (by decide) (by decide) ?_
  intro v95 T95 L95 X95 q95
  obtain ⟨r95, kr95, rfl, M95, K95, P95_0, P95_1, P95_2⟩ := q95
  have N95 := Fr.app N0 M95
  have Z95 : n0 ≤ T95.heap.size := Nat.le_trans Z0 K95.1
  have B95 : h0.size ≤ T95.heap.size := Nat.le_trans (Nat.le_refl _) K95.1
  have ne_ab_r95 : ab ≠ r95 := Nat.ne_of_lt (Nat.lt_of_lt_of_le (f1).lt P95_1)
  show Go _ _ _ _ T95 (mkF m 16 #[.val (.ref ab), .val (.int (4 : Int32)), .val (.int (8 : Int32))] [(.ref r95)]) _ _ _
  refine Go.retR X95 hx hlk hret rfl rfl (hb hby d_cr1_16) (by decide) (by decide) ?_
  exact ⟨r95, kr95, rfl, N95, (Keep.trans (Keep.refl _ _) K95 all0), P95_0, (Nat.le_trans (Nat.le_refl _) P95_1), P95_2⟩
def Q_tb1 (Z : State) (a : Addr) (ab : Addr) (kb : ClassId) (g : Nat → Int32) (h0 : Heap) (n0 : Nat) (v : Option Value) (h : Heap) (L : List Loc) : Prop := ∃ (r : Addr) (kr : ClassId), v = some (.ref r) ∧ Fr n0 L ∧ Keep h0 h [] ∧ n0 ≤ r ∧ h0.size ≤ r ∧ Af Z h r kr .byte 4 (fun i => Value.int (g (i + 4)))
theorem ef_tb1 (m : MethodId) (x0 : Addr) : entryFrame m #[(.ref x0)] 1 = mkF m 0 #[.val (.ref x0)] [] := by first | (simp [entryFrame, mkF, argsToLocals, Value.category]; done) | rfl
set_option maxRecDepth 65536 in
set_option maxHeartbeats 40000000 in
theorem rm_tb1 (l : Launch) (Z : State) (a0 : Array Value) (hw : ∀ d ∈ tables_1, d.before a0 Z = true) (a : Addr) (ab : Addr) (kb : ClassId) (g : Nat → Int32) (h0 : Heap) (n0 : Nat) (Z0 : n0 ≤ h0.size) (f0 : okB g) (f1 : Fld Z h0 a "com/example/farcall/farcall/XdrWriter" "bytes" "[B" (.ref ab)) (f2 : Fld Z h0 a "com/example/farcall/farcall/XdrWriter" "end" "I" (.int (8 : Int32))) (f3 : Af Z h0 ab kb .byte 256 (fun i => Value.int (g i))) :
    Met l Z (⟨"com/example/farcall/farcall/XdrWriter", "toByteArray", "()[B"⟩ : MethodName) prog_55_method_19_code 1 (Option.some (Jvm.ClassFile.FieldType.array Jvm.ClassFile.FieldType.byte)) [] ({ frames := 3, cells := 1, slots := 4, locals := 48 } : Room) #[(.ref a)] h0 (Q_tb1 Z a ab kb g h0 n0) := by
  refine Met.of (plainFor_of_name pn_tb1) ?_
  intro p e s m below meth c s₁ X0 hx hby hml hZ hown hnm e0 hret hlk
  refine Go.cast (ef_tb1 m a) ?_
  show Go _ _ _ _ s₁ (mkF m 0 #[.val (.ref a)] []) _ _ _
  have N0 := Fr.nil n0
  refine Go.aloadN X0 hx (hb hby d_tb1_0) rfl rfl ?_
  show Go _ _ _ _ s₁ (mkF m 1 #[.val (.ref a)] [(.ref a)]) _ _ _
  refine Go.getF X0 hx hZ hown (w11 hw) Via.refl e0 f1 (hb hby d_tb1_1) ?_
  intro T96 X96 e96
  show Go _ _ _ _ T96 (mkF m 4 #[.val (.ref a)] [(.ref ab)]) _ _ _
  refine Go.iconst X96 hx (hb hby d_tb1_4) ?_
  show Go _ _ _ _ T96 (mkF m 5 #[.val (.ref a)] [(.int (4 : Int32)), (.ref ab)]) _ _ _
  refine Go.aloadN X96 hx (hb hby d_tb1_5) rfl rfl ?_
  show Go _ _ _ _ T96 (mkF m 6 #[.val (.ref a)] [(.ref a), (.int (4 : Int32)), (.ref ab)]) _ _ _
  refine Go.getF X96 hx hZ hown (w13 hw) Via.refl e96 f2 (hb hby d_tb1_6) ?_
  intro T97 X97 e97
  show Go _ _ _ _ T97 (mkF m 9 #[.val (.ref a)] [(.int (8 : Int32)), (.int (4 : Int32)), (.ref ab)]) _ _ _
  refine Go.callS (W := 0) (argsL := [(.ref ab), (.int (4 : Int32)), (.int (8 : Int32))]) (rest := []) X97 hx hZ hown (w33 hw) (w34 hw) (w35 hw) (w36 hw) (by decide) (rm_cr1 l Z a0 hw ab kb g h0 n0 Z0 f0 f3) e97 (lenOf pd_3 rfl) (hb hby d_tb1_9) (by rw [hml]; rfl) rfl (Nat.le_of_eq rfl) (by decide) (by decide) (by decide) (by decide) ?_
  intro v98 T98 L98 X98 q98
  obtain ⟨r98, kr98, rfl, M98, K98, P98_0, P98_1, P98_2⟩ := q98
  have N98 := Fr.app N0 M98
  have Z98 : n0 ≤ T98.heap.size := Nat.le_trans Z0 K98.1
  have B98 : h0.size ≤ T98.heap.size := Nat.le_trans (Nat.le_refl _) K98.1
  have ne_ab_r98 : ab ≠ r98 := Nat.ne_of_lt (Nat.lt_of_lt_of_le (f3).lt P98_1)
  show Go _ _ _ _ T98 (mkF m 12 #[.val (.ref a)] [(.ref r98)]) _ _ _
  refine Go.retR X98 hx hlk hret rfl rfl (hb hby d_tb1_12) (by decide) (by decide) ?_
  exact ⟨r98, kr98, rfl, N98, (Keep.trans (Keep.refl _ _) K98 all0), P98_0, (Nat.le_trans (Nat.le_refl _) P98_1), P98_2⟩
def Q_cl2 (Z : State)  (h0 : Heap) (n0 : Nat) (v : Option Value) (h : Heap) (L : List Loc) : Prop := v = none ∧ Fr n0 L ∧ h = h0
theorem ef_cl2 (m : MethodId) (x0 : Int32) (x1 : Int32) : entryFrame m #[(.int x0), (.int x1)] 2 = mkF m 0 #[.val (.int x0), .val (.int x1)] [] := by first | (simp [entryFrame, mkF, argsToLocals, Value.category]; done) | rfl
set_option maxRecDepth 65536 in
set_option maxHeartbeats 40000000 in
theorem rm_cl2 (l : Launch) (Z : State) (a0 : Array Value) (hw : ∀ d ∈ tables_1, d.before a0 Z = true)  (h0 : Heap) (n0 : Nat) (Z0 : n0 ≤ h0.size)  :
    Met l Z (⟨"java/util/Arrays", "checkLength", "(II)V"⟩ : MethodName) jdk_65_method_131_code 2 none [] ({ frames := 0, cells := 0, slots := 0, locals := 0 } : Room) #[(.int (4 : Int32)), (.int (12 : Int32))] h0 (Q_cl2 Z  h0 n0) := by
  refine Met.of (plainFor_of_name pn_cl2) ?_
  intro p e s m below meth c s₁ X0 hx hby hml hZ hown hnm e0 hret hlk
  refine Go.cast (ef_cl2 m ((4 : Int32)) ((12 : Int32))) ?_
  show Go _ _ _ _ s₁ (mkF m 0 #[.val (.int (4 : Int32)), .val (.int (12 : Int32))] []) _ _ _
  have N0 := Fr.nil n0
  refine Go.iloadN X0 hx (hb hby d_cl2_0) rfl ?_
  show Go _ _ _ _ s₁ (mkF m 1 #[.val (.int (4 : Int32)), .val (.int (12 : Int32))] [(.int (12 : Int32))]) _ _ _
  refine Go.iloadN X0 hx (hb hby d_cl2_1) rfl ?_
  show Go _ _ _ _ s₁ (mkF m 2 #[.val (.int (4 : Int32)), .val (.int (12 : Int32))] [(.int (4 : Int32)), (.int (12 : Int32))]) _ _ _
  refine Go.icmpYes X0 hx (hb hby d_cl2_2) (XT.ii_ge_t (by decide)) (pc' := 37) (by decide) (by decide) ?_
  show Go _ _ _ _ s₁ (mkF m 37 #[.val (.int (4 : Int32)), .val (.int (12 : Int32))] []) _ _ _
  refine Go.ret0 X0 hx hlk hret (hb hby d_cl2_37) (by decide) (by decide) ?_
  rw [e0]
  exact ⟨rfl, N0, rfl⟩
def Q_cb2 (Z : State) (ab : Addr) (kb : ClassId) (g : Nat → Int32) (h0 : Heap) (n0 : Nat) (v : Option Value) (h : Heap) (L : List Loc) : Prop := ∃ (r : Addr) (kr : ClassId), v = some (.ref r) ∧ Fr n0 L ∧ Keep h0 h [] ∧ n0 ≤ r ∧ h0.size ≤ r ∧ Af Z h r kr .byte 8 (fun i => Value.int (g (i + 4)))
theorem ef_cb2 (m : MethodId) (x0 : Addr) (x1 : Int32) (x2 : Int32) : entryFrame m #[(.ref x0), (.int x1), (.int x2)] 5 = mkF m 0 #[.val (.ref x0), .val (.int x1), .val (.int x2), .unset, .unset] [] := by first | (simp [entryFrame, mkF, argsToLocals, Value.category]; done) | rfl
set_option maxRecDepth 65536 in
set_option maxHeartbeats 40000000 in
theorem rm_cb2 (l : Launch) (Z : State) (a0 : Array Value) (hw : ∀ d ∈ tables_1, d.before a0 Z = true) (ab : Addr) (kb : ClassId) (g : Nat → Int32) (h0 : Heap) (n0 : Nat) (Z0 : n0 ≤ h0.size) (f0 : okB g) (f1 : Af Z h0 ab kb .byte 256 (fun i => Value.int (g i))) :
    Met l Z (⟨"java/util/Arrays", "copyOfRangeByte", "([BII)[B"⟩ : MethodName) jdk_65_method_133_code 5 (Option.some (Jvm.ClassFile.FieldType.array Jvm.ClassFile.FieldType.byte)) [] ({ frames := 1, cells := 1, slots := 8, locals := 18 } : Room) #[(.ref ab), (.int (4 : Int32)), (.int (12 : Int32))] h0 (Q_cb2 Z ab kb g h0 n0) := by
  refine Met.of (plainFor_of_name pn_cb2) ?_
  intro p e s m below meth c s₁ X0 hx hby hml hZ hown hnm e0 hret hlk
  refine Go.cast (ef_cb2 m ab ((4 : Int32)) ((12 : Int32))) ?_
  show Go _ _ _ _ s₁ (mkF m 0 #[.val (.ref ab), .val (.int (4 : Int32)), .val (.int (12 : Int32)), .unset, .unset] []) _ _ _
  have N0 := Fr.nil n0
  refine Go.iloadN X0 hx (hb hby d_cb2_0) rfl ?_
  show Go _ _ _ _ s₁ (mkF m 1 #[.val (.ref ab), .val (.int (4 : Int32)), .val (.int (12 : Int32)), .unset, .unset] [(.int (4 : Int32))]) _ _ _
  refine Go.iloadN X0 hx (hb hby d_cb2_1) rfl ?_
  show Go _ _ _ _ s₁ (mkF m 2 #[.val (.ref ab), .val (.int (4 : Int32)), .val (.int (12 : Int32)), .unset, .unset] [(.int (12 : Int32)), (.int (4 : Int32))]) _ _ _
  refine Go.callS (W := 0) (argsL := [(.int (4 : Int32)), (.int (12 : Int32))]) (rest := []) X0 hx hZ hown (w40 hw) (w41 hw) (w35 hw) (w42 hw) (by decide) (rm_cl2 l Z a0 hw  h0 n0 Z0 ) e0 (lenOf pd_1 rfl) (hb hby d_cb2_2) (by rw [hml]; rfl) rfl (Nat.le_of_eq rfl) (by decide) (by decide) (by decide) (by decide) ?_
  intro v99 T99 L99 X99 q99
  obtain ⟨rfl, M99, e99⟩ := q99
  have N99 := Fr.app N0 M99
  show Go _ _ _ _ T99 (mkF m 5 #[.val (.ref ab), .val (.int (4 : Int32)), .val (.int (12 : Int32)), .unset, .unset] []) _ _ _
  refine Go.iloadN X99 hx (hb hby d_cb2_5) rfl ?_
  show Go _ _ _ _ T99 (mkF m 6 #[.val (.ref ab), .val (.int (4 : Int32)), .val (.int (12 : Int32)), .unset, .unset] [(.int (12 : Int32))]) _ _ _
  refine Go.iloadN X99 hx (hb hby d_cb2_6) rfl ?_
  show Go _ _ _ _ T99 (mkF m 7 #[.val (.ref ab), .val (.int (4 : Int32)), .val (.int (12 : Int32)), .unset, .unset] [(.int (4 : Int32)), (.int (12 : Int32))]) _ _ _
  refine Go.isub X99 hx (hb hby d_cb2_7) ?_
  show Go _ _ _ _ T99 (mkF m 8 #[.val (.ref ab), .val (.int (4 : Int32)), .val (.int (12 : Int32)), .unset, .unset] [(.int (8 : Int32))]) _ _ _
  refine Go.istoreN X99 hx (hb hby d_cb2_8) (l' := #[.val (.ref ab), .val (.int (4 : Int32)), .val (.int (12 : Int32)), .val (.int (8 : Int32)), .unset]) rfl ?_
  show Go _ _ _ _ T99 (mkF m 9 #[.val (.ref ab), .val (.int (4 : Int32)), .val (.int (12 : Int32)), .val (.int (8 : Int32)), .unset] []) _ _ _
  refine Go.iloadN X99 hx (hb hby d_cb2_9) rfl ?_
  show Go _ _ _ _ T99 (mkF m 10 #[.val (.ref ab), .val (.int (4 : Int32)), .val (.int (12 : Int32)), .val (.int (8 : Int32)), .unset] [(.int (8 : Int32))]) _ _ _
  refine Go.newarray (aty := .byte) (cap := 8) X99 hx hZ (w10 hw) e99 (hb hby d_cb2_10) (by decide) (by decide) (by decide) (by decide) (by decide) ?_
  intro T100 h100 a100 k100 b100 X100 e100 E100 A100
  have g_a100 : n0 ≤ a100 := by rw [b100]; exact Z0
  have y_a100 : h0.size ≤ a100 := by rw [b100]; exact (Nat.le_refl _)
  have ne_ab_a100 : ab ≠ a100 := by rw [b100]; exact Nat.ne_of_lt f1.lt
  have Z100 : n0 ≤ h100.size := Nat.le_trans Z0 E100.1
  have B100 : h0.size ≤ h100.size := Nat.le_trans (Nat.le_refl _) E100.1
  show Go _ _ _ _ T100 (mkF m 12 #[.val (.ref ab), .val (.int (4 : Int32)), .val (.int (12 : Int32)), .val (.int (8 : Int32)), .unset] [(.ref a100)]) _ _ _
  refine Go.astore X100 hx (hb hby d_cb2_12) rfl (l' := #[.val (.ref ab), .val (.int (4 : Int32)), .val (.int (12 : Int32)), .val (.int (8 : Int32)), .val (.ref a100)]) rfl ?_
  show Go _ _ _ _ T100 (mkF m 14 #[.val (.ref ab), .val (.int (4 : Int32)), .val (.int (12 : Int32)), .val (.int (8 : Int32)), .val (.ref a100)] []) _ _ _
  refine Go.aloadN X100 hx (hb hby d_cb2_14) rfl rfl ?_
  show Go _ _ _ _ T100 (mkF m 15 #[.val (.ref ab), .val (.int (4 : Int32)), .val (.int (12 : Int32)), .val (.int (8 : Int32)), .val (.ref a100)] [(.ref ab)]) _ _ _
  refine Go.iloadN X100 hx (hb hby d_cb2_15) rfl ?_
  show Go _ _ _ _ T100 (mkF m 16 #[.val (.ref ab), .val (.int (4 : Int32)), .val (.int (12 : Int32)), .val (.int (8 : Int32)), .val (.ref a100)] [(.int (4 : Int32)), (.ref ab)]) _ _ _
  refine Go.aload X100 hx (hb hby d_cb2_16) rfl rfl ?_
  show Go _ _ _ _ T100 (mkF m 18 #[.val (.ref ab), .val (.int (4 : Int32)), .val (.int (12 : Int32)), .val (.int (8 : Int32)), .val (.ref a100)] [(.ref a100), (.int (4 : Int32)), (.ref ab)]) _ _ _
  refine Go.iconst X100 hx (hb hby d_cb2_18) ?_
  show Go _ _ _ _ T100 (mkF m 19 #[.val (.ref ab), .val (.int (4 : Int32)), .val (.int (12 : Int32)), .val (.int (8 : Int32)), .val (.ref a100)] [(.int (0 : Int32)), (.ref a100), (.int (4 : Int32)), (.ref ab)]) _ _ _
  refine Go.aloadN X100 hx (hb hby d_cb2_19) rfl rfl ?_
  show Go _ _ _ _ T100 (mkF m 20 #[.val (.ref ab), .val (.int (4 : Int32)), .val (.int (12 : Int32)), .val (.int (8 : Int32)), .val (.ref a100)] [(.ref ab), (.int (0 : Int32)), (.ref a100), (.int (4 : Int32)), (.ref ab)]) _ _ _
  refine Go.alen X100 hx hZ e100 (Af.ext E100 f1) (hb hby d_cb2_20) ?_
  show Go _ _ _ _ T100 (mkF m 21 #[.val (.ref ab), .val (.int (4 : Int32)), .val (.int (12 : Int32)), .val (.int (8 : Int32)), .val (.ref a100)] [(.int (256 : Int32)), (.int (0 : Int32)), (.ref a100), (.int (4 : Int32)), (.ref ab)]) _ _ _
  refine Go.iloadN X100 hx (hb hby d_cb2_21) rfl ?_
  show Go _ _ _ _ T100 (mkF m 22 #[.val (.ref ab), .val (.int (4 : Int32)), .val (.int (12 : Int32)), .val (.int (8 : Int32)), .val (.ref a100)] [(.int (4 : Int32)), (.int (256 : Int32)), (.int (0 : Int32)), (.ref a100), (.int (4 : Int32)), (.ref ab)]) _ _ _
  refine Go.isub X100 hx (hb hby d_cb2_22) ?_
  show Go _ _ _ _ T100 (mkF m 23 #[.val (.ref ab), .val (.int (4 : Int32)), .val (.int (12 : Int32)), .val (.int (8 : Int32)), .val (.ref a100)] [(.int (252 : Int32)), (.int (0 : Int32)), (.ref a100), (.int (4 : Int32)), (.ref ab)]) _ _ _
  refine Go.iloadN X100 hx (hb hby d_cb2_23) rfl ?_
  show Go _ _ _ _ T100 (mkF m 24 #[.val (.ref ab), .val (.int (4 : Int32)), .val (.int (12 : Int32)), .val (.int (8 : Int32)), .val (.ref a100)] [(.int (8 : Int32)), (.int (252 : Int32)), (.int (0 : Int32)), (.ref a100), (.int (4 : Int32)), (.ref ab)]) _ _ _
  refine Go.callS (W := 4) (argsL := [(.int (252 : Int32)), (.int (8 : Int32))]) (rest := [(.int (0 : Int32)), (.ref a100), (.int (4 : Int32)), (.ref ab)]) X100 hx hZ hown (w43 hw) (w44 hw) (w45 hw) (w46 hw) (by decide) (rm_min l Z a0 hw ((252 : Int32)) ((8 : Int32)) h100) e100 (lenOf pd_2 rfl) (hb hby d_cb2_24) (by rw [hml]; rfl) rfl (Nat.le_of_eq rfl) (by decide) (by decide) (by decide) (by decide) ?_
  intro v101 T101 L101 X101 q101
  obtain ⟨rfl, rfl, e101⟩ := q101
  have N101 := Fr.app N99 (Fr.nil n0)
  show Go _ _ _ _ T101 (mkF m 27 #[.val (.ref ab), .val (.int (4 : Int32)), .val (.int (12 : Int32)), .val (.int (8 : Int32)), .val (.ref a100)] [(.int (F_min (252 : Int32) (8 : Int32))), (.int (0 : Int32)), (.ref a100), (.int (4 : Int32)), (.ref ab)]) _ _ _
  refine Go.acopy (W := 0) X101 hx hZ hown (w47 hw) (w50 hw) (w48 hw) (w49 hw) e101 (Af.ext E100 f1) A100 rfl (fun i _ => f0 i) (fun _ _ => rfl) (by decide) (by decide) (by decide) (by decide) (by decide) N101 g_a100 (hb hby d_cb2_27) (by rw [hml]; rfl) (Nat.le_of_eq rfl) (by decide) (by decide) ?_
  intro T102 h102 L102 X102 e102 N102 K102 A102
  have Z102 : n0 ≤ h102.size := Nat.le_trans Z100 K102.1
  have B102 : h0.size ≤ h102.size := Nat.le_trans B100 K102.1
  have A103 : Af Z h102 a100 k100 .byte 8 (fun i => Value.int (g (i + 4))) := Af.congr A102 (fun i hi => by show Value.int (g (i + 4)) = if 0 ≤ i ∧ i < 0 + 8 then Value.int (g (4 + (i - 0))) else _; rw [if_pos ⟨by omega, by omega⟩, Nat.sub_zero, Nat.add_comm])
  show Go _ _ _ _ T102 (mkF m 30 #[.val (.ref ab), .val (.int (4 : Int32)), .val (.int (12 : Int32)), .val (.int (8 : Int32)), .val (.ref a100)] []) _ _ _
  refine Go.aload X102 hx (hb hby d_cb2_30) rfl rfl ?_
  show Go _ _ _ _ T102 (mkF m 32 #[.val (.ref ab), .val (.int (4 : Int32)), .val (.int (12 : Int32)), .val (.int (8 : Int32)), .val (.ref a100)] [(.ref a100)]) _ _ _
  refine Go.retR X102 hx hlk hret rfl rfl (hb hby d_cb2_32) (by decide) (by decide) ?_
  rw [e102]
  exact ⟨a100, k100, rfl, N102, (Keep.trans (Keep.ext (Keep.refl _ _) E100) K102 (allS (Or.inr y_a100) all0)), g_a100, y_a100, A103⟩
def Q_cr2 (Z : State) (ab : Addr) (kb : ClassId) (g : Nat → Int32) (h0 : Heap) (n0 : Nat) (v : Option Value) (h : Heap) (L : List Loc) : Prop := ∃ (r : Addr) (kr : ClassId), v = some (.ref r) ∧ Fr n0 L ∧ Keep h0 h [] ∧ n0 ≤ r ∧ h0.size ≤ r ∧ Af Z h r kr .byte 8 (fun i => Value.int (g (i + 4)))
theorem ef_cr2 (m : MethodId) (x0 : Addr) (x1 : Int32) (x2 : Int32) : entryFrame m #[(.ref x0), (.int x1), (.int x2)] 3 = mkF m 0 #[.val (.ref x0), .val (.int x1), .val (.int x2)] [] := by first | (simp [entryFrame, mkF, argsToLocals, Value.category]; done) | rfl
set_option maxRecDepth 65536 in
set_option maxHeartbeats 40000000 in
theorem rm_cr2 (l : Launch) (Z : State) (a0 : Array Value) (hw : ∀ d ∈ tables_1, d.before a0 Z = true) (ab : Addr) (kb : ClassId) (g : Nat → Int32) (h0 : Heap) (n0 : Nat) (Z0 : n0 ≤ h0.size) (f0 : okB g) (f1 : Af Z h0 ab kb .byte 256 (fun i => Value.int (g i))) :
    Met l Z (⟨"java/util/Arrays", "copyOfRange", "([BII)[B"⟩ : MethodName) jdk_65_method_132_code 3 (Option.some (Jvm.ClassFile.FieldType.array Jvm.ClassFile.FieldType.byte)) [] ({ frames := 2, cells := 1, slots := 8, locals := 34 } : Room) #[(.ref ab), (.int (4 : Int32)), (.int (12 : Int32))] h0 (Q_cr2 Z ab kb g h0 n0) := by
  refine Met.of (plainFor_of_name pn_cr2) ?_
  intro p e s m below meth c s₁ X0 hx hby hml hZ hown hnm e0 hret hlk
  refine Go.cast (ef_cr2 m ab ((4 : Int32)) ((12 : Int32))) ?_
  show Go _ _ _ _ s₁ (mkF m 0 #[.val (.ref ab), .val (.int (4 : Int32)), .val (.int (12 : Int32))] []) _ _ _
  have N0 := Fr.nil n0
  refine Go.iloadN X0 hx (hb hby d_cr2_0) rfl ?_
  show Go _ _ _ _ s₁ (mkF m 1 #[.val (.ref ab), .val (.int (4 : Int32)), .val (.int (12 : Int32))] [(.int (4 : Int32))]) _ _ _
  refine Go.ifYes X0 hx (hb hby d_cr2_1) (XT.i0_ne_t (by decide)) (pc' := 10) (by decide) (by decide) ?_
  show Go _ _ _ _ s₁ (mkF m 10 #[.val (.ref ab), .val (.int (4 : Int32)), .val (.int (12 : Int32))] []) _ _ _
  refine Go.aloadN X0 hx (hb hby d_cr2_10) rfl rfl ?_
  show Go _ _ _ _ s₁ (mkF m 11 #[.val (.ref ab), .val (.int (4 : Int32)), .val (.int (12 : Int32))] [(.ref ab)]) _ _ _
  refine Go.iloadN X0 hx (hb hby d_cr2_11) rfl ?_
  show Go _ _ _ _ s₁ (mkF m 12 #[.val (.ref ab), .val (.int (4 : Int32)), .val (.int (12 : Int32))] [(.int (4 : Int32)), (.ref ab)]) _ _ _
  refine Go.iloadN X0 hx (hb hby d_cr2_12) rfl ?_
  show Go _ _ _ _ s₁ (mkF m 13 #[.val (.ref ab), .val (.int (4 : Int32)), .val (.int (12 : Int32))] [(.int (12 : Int32)), (.int (4 : Int32)), (.ref ab)]) _ _ _
  refine Go.callS (W := 0) (argsL := [(.ref ab), (.int (4 : Int32)), (.int (12 : Int32))]) (rest := []) X0 hx hZ hown (w37 hw) (w38 hw) (w35 hw) (w39 hw) (by decide) (rm_cb2 l Z a0 hw ab kb g h0 n0 Z0 f0 f1) e0 (lenOf pd_3 rfl) (hb hby d_cr2_13) (by rw [hml]; rfl) rfl (Nat.le_of_eq rfl) (by decide) (by decide) (by decide) (by decide) ?_
  intro v104 T104 L104 X104 q104
  obtain ⟨r104, kr104, rfl, M104, K104, P104_0, P104_1, P104_2⟩ := q104
  have N104 := Fr.app N0 M104
  have Z104 : n0 ≤ T104.heap.size := Nat.le_trans Z0 K104.1
  have B104 : h0.size ≤ T104.heap.size := Nat.le_trans (Nat.le_refl _) K104.1
  have ne_ab_r104 : ab ≠ r104 := Nat.ne_of_lt (Nat.lt_of_lt_of_le (f1).lt P104_1)
  show Go _ _ _ _ T104 (mkF m 16 #[.val (.ref ab), .val (.int (4 : Int32)), .val (.int (12 : Int32))] [(.ref r104)]) _ _ _
  refine Go.retR X104 hx hlk hret rfl rfl (hb hby d_cr2_16) (by decide) (by decide) ?_
  exact ⟨r104, kr104, rfl, N104, (Keep.trans (Keep.refl _ _) K104 all0), P104_0, (Nat.le_trans (Nat.le_refl _) P104_1), P104_2⟩
def Q_tb2 (Z : State) (a : Addr) (ab : Addr) (kb : ClassId) (g : Nat → Int32) (h0 : Heap) (n0 : Nat) (v : Option Value) (h : Heap) (L : List Loc) : Prop := ∃ (r : Addr) (kr : ClassId), v = some (.ref r) ∧ Fr n0 L ∧ Keep h0 h [] ∧ n0 ≤ r ∧ h0.size ≤ r ∧ Af Z h r kr .byte 8 (fun i => Value.int (g (i + 4)))
theorem ef_tb2 (m : MethodId) (x0 : Addr) : entryFrame m #[(.ref x0)] 1 = mkF m 0 #[.val (.ref x0)] [] := by first | (simp [entryFrame, mkF, argsToLocals, Value.category]; done) | rfl
set_option maxRecDepth 65536 in
set_option maxHeartbeats 40000000 in
theorem rm_tb2 (l : Launch) (Z : State) (a0 : Array Value) (hw : ∀ d ∈ tables_1, d.before a0 Z = true) (a : Addr) (ab : Addr) (kb : ClassId) (g : Nat → Int32) (h0 : Heap) (n0 : Nat) (Z0 : n0 ≤ h0.size) (f0 : okB g) (f1 : Fld Z h0 a "com/example/farcall/farcall/XdrWriter" "bytes" "[B" (.ref ab)) (f2 : Fld Z h0 a "com/example/farcall/farcall/XdrWriter" "end" "I" (.int (12 : Int32))) (f3 : Af Z h0 ab kb .byte 256 (fun i => Value.int (g i))) :
    Met l Z (⟨"com/example/farcall/farcall/XdrWriter", "toByteArray", "()[B"⟩ : MethodName) prog_55_method_19_code 1 (Option.some (Jvm.ClassFile.FieldType.array Jvm.ClassFile.FieldType.byte)) [] ({ frames := 3, cells := 1, slots := 8, locals := 48 } : Room) #[(.ref a)] h0 (Q_tb2 Z a ab kb g h0 n0) := by
  refine Met.of (plainFor_of_name pn_tb2) ?_
  intro p e s m below meth c s₁ X0 hx hby hml hZ hown hnm e0 hret hlk
  refine Go.cast (ef_tb2 m a) ?_
  show Go _ _ _ _ s₁ (mkF m 0 #[.val (.ref a)] []) _ _ _
  have N0 := Fr.nil n0
  refine Go.aloadN X0 hx (hb hby d_tb2_0) rfl rfl ?_
  show Go _ _ _ _ s₁ (mkF m 1 #[.val (.ref a)] [(.ref a)]) _ _ _
  refine Go.getF X0 hx hZ hown (w11 hw) Via.refl e0 f1 (hb hby d_tb2_1) ?_
  intro T105 X105 e105
  show Go _ _ _ _ T105 (mkF m 4 #[.val (.ref a)] [(.ref ab)]) _ _ _
  refine Go.iconst X105 hx (hb hby d_tb2_4) ?_
  show Go _ _ _ _ T105 (mkF m 5 #[.val (.ref a)] [(.int (4 : Int32)), (.ref ab)]) _ _ _
  refine Go.aloadN X105 hx (hb hby d_tb2_5) rfl rfl ?_
  show Go _ _ _ _ T105 (mkF m 6 #[.val (.ref a)] [(.ref a), (.int (4 : Int32)), (.ref ab)]) _ _ _
  refine Go.getF X105 hx hZ hown (w13 hw) Via.refl e105 f2 (hb hby d_tb2_6) ?_
  intro T106 X106 e106
  show Go _ _ _ _ T106 (mkF m 9 #[.val (.ref a)] [(.int (12 : Int32)), (.int (4 : Int32)), (.ref ab)]) _ _ _
  refine Go.callS (W := 0) (argsL := [(.ref ab), (.int (4 : Int32)), (.int (12 : Int32))]) (rest := []) X106 hx hZ hown (w33 hw) (w34 hw) (w35 hw) (w36 hw) (by decide) (rm_cr2 l Z a0 hw ab kb g h0 n0 Z0 f0 f3) e106 (lenOf pd_3 rfl) (hb hby d_tb2_9) (by rw [hml]; rfl) rfl (Nat.le_of_eq rfl) (by decide) (by decide) (by decide) (by decide) ?_
  intro v107 T107 L107 X107 q107
  obtain ⟨r107, kr107, rfl, M107, K107, P107_0, P107_1, P107_2⟩ := q107
  have N107 := Fr.app N0 M107
  have Z107 : n0 ≤ T107.heap.size := Nat.le_trans Z0 K107.1
  have B107 : h0.size ≤ T107.heap.size := Nat.le_trans (Nat.le_refl _) K107.1
  have ne_ab_r107 : ab ≠ r107 := Nat.ne_of_lt (Nat.lt_of_lt_of_le (f3).lt P107_1)
  show Go _ _ _ _ T107 (mkF m 12 #[.val (.ref a)] [(.ref r107)]) _ _ _
  refine Go.retR X107 hx hlk hret rfl rfl (hb hby d_tb2_12) (by decide) (by decide) ?_
  exact ⟨r107, kr107, rfl, N107, (Keep.trans (Keep.refl _ _) K107 all0), P107_0, (Nat.le_trans (Nat.le_refl _) P107_1), P107_2⟩
def Q_cl3 (Z : State)  (h0 : Heap) (n0 : Nat) (v : Option Value) (h : Heap) (L : List Loc) : Prop := v = none ∧ Fr n0 L ∧ h = h0
theorem ef_cl3 (m : MethodId) (x0 : Int32) (x1 : Int32) : entryFrame m #[(.int x0), (.int x1)] 2 = mkF m 0 #[.val (.int x0), .val (.int x1)] [] := by first | (simp [entryFrame, mkF, argsToLocals, Value.category]; done) | rfl
set_option maxRecDepth 65536 in
set_option maxHeartbeats 40000000 in
theorem rm_cl3 (l : Launch) (Z : State) (a0 : Array Value) (hw : ∀ d ∈ tables_1, d.before a0 Z = true)  (h0 : Heap) (n0 : Nat) (Z0 : n0 ≤ h0.size)  :
    Met l Z (⟨"java/util/Arrays", "checkLength", "(II)V"⟩ : MethodName) jdk_65_method_131_code 2 none [] ({ frames := 0, cells := 0, slots := 0, locals := 0 } : Room) #[(.int (4 : Int32)), (.int (16 : Int32))] h0 (Q_cl3 Z  h0 n0) := by
  refine Met.of (plainFor_of_name pn_cl3) ?_
  intro p e s m below meth c s₁ X0 hx hby hml hZ hown hnm e0 hret hlk
  refine Go.cast (ef_cl3 m ((4 : Int32)) ((16 : Int32))) ?_
  show Go _ _ _ _ s₁ (mkF m 0 #[.val (.int (4 : Int32)), .val (.int (16 : Int32))] []) _ _ _
  have N0 := Fr.nil n0
  refine Go.iloadN X0 hx (hb hby d_cl3_0) rfl ?_
  show Go _ _ _ _ s₁ (mkF m 1 #[.val (.int (4 : Int32)), .val (.int (16 : Int32))] [(.int (16 : Int32))]) _ _ _
  refine Go.iloadN X0 hx (hb hby d_cl3_1) rfl ?_
  show Go _ _ _ _ s₁ (mkF m 2 #[.val (.int (4 : Int32)), .val (.int (16 : Int32))] [(.int (4 : Int32)), (.int (16 : Int32))]) _ _ _
  refine Go.icmpYes X0 hx (hb hby d_cl3_2) (XT.ii_ge_t (by decide)) (pc' := 37) (by decide) (by decide) ?_
  show Go _ _ _ _ s₁ (mkF m 37 #[.val (.int (4 : Int32)), .val (.int (16 : Int32))] []) _ _ _
  refine Go.ret0 X0 hx hlk hret (hb hby d_cl3_37) (by decide) (by decide) ?_
  rw [e0]
  exact ⟨rfl, N0, rfl⟩
def Q_cb3 (Z : State) (ab : Addr) (kb : ClassId) (g : Nat → Int32) (h0 : Heap) (n0 : Nat) (v : Option Value) (h : Heap) (L : List Loc) : Prop := ∃ (r : Addr) (kr : ClassId), v = some (.ref r) ∧ Fr n0 L ∧ Keep h0 h [] ∧ n0 ≤ r ∧ h0.size ≤ r ∧ Af Z h r kr .byte 12 (fun i => Value.int (g (i + 4)))
theorem ef_cb3 (m : MethodId) (x0 : Addr) (x1 : Int32) (x2 : Int32) : entryFrame m #[(.ref x0), (.int x1), (.int x2)] 5 = mkF m 0 #[.val (.ref x0), .val (.int x1), .val (.int x2), .unset, .unset] [] := by first | (simp [entryFrame, mkF, argsToLocals, Value.category]; done) | rfl
set_option maxRecDepth 65536 in
set_option maxHeartbeats 40000000 in
theorem rm_cb3 (l : Launch) (Z : State) (a0 : Array Value) (hw : ∀ d ∈ tables_1, d.before a0 Z = true) (ab : Addr) (kb : ClassId) (g : Nat → Int32) (h0 : Heap) (n0 : Nat) (Z0 : n0 ≤ h0.size) (f0 : okB g) (f1 : Af Z h0 ab kb .byte 256 (fun i => Value.int (g i))) :
    Met l Z (⟨"java/util/Arrays", "copyOfRangeByte", "([BII)[B"⟩ : MethodName) jdk_65_method_133_code 5 (Option.some (Jvm.ClassFile.FieldType.array Jvm.ClassFile.FieldType.byte)) [] ({ frames := 1, cells := 1, slots := 12, locals := 18 } : Room) #[(.ref ab), (.int (4 : Int32)), (.int (16 : Int32))] h0 (Q_cb3 Z ab kb g h0 n0) := by
  refine Met.of (plainFor_of_name pn_cb3) ?_
  intro p e s m below meth c s₁ X0 hx hby hml hZ hown hnm e0 hret hlk
  refine Go.cast (ef_cb3 m ab ((4 : Int32)) ((16 : Int32))) ?_
  show Go _ _ _ _ s₁ (mkF m 0 #[.val (.ref ab), .val (.int (4 : Int32)), .val (.int (16 : Int32)), .unset, .unset] []) _ _ _
  have N0 := Fr.nil n0
  refine Go.iloadN X0 hx (hb hby d_cb3_0) rfl ?_
  show Go _ _ _ _ s₁ (mkF m 1 #[.val (.ref ab), .val (.int (4 : Int32)), .val (.int (16 : Int32)), .unset, .unset] [(.int (4 : Int32))]) _ _ _
  refine Go.iloadN X0 hx (hb hby d_cb3_1) rfl ?_
  show Go _ _ _ _ s₁ (mkF m 2 #[.val (.ref ab), .val (.int (4 : Int32)), .val (.int (16 : Int32)), .unset, .unset] [(.int (16 : Int32)), (.int (4 : Int32))]) _ _ _
  refine Go.callS (W := 0) (argsL := [(.int (4 : Int32)), (.int (16 : Int32))]) (rest := []) X0 hx hZ hown (w40 hw) (w41 hw) (w35 hw) (w42 hw) (by decide) (rm_cl3 l Z a0 hw  h0 n0 Z0 ) e0 (lenOf pd_1 rfl) (hb hby d_cb3_2) (by rw [hml]; rfl) rfl (Nat.le_of_eq rfl) (by decide) (by decide) (by decide) (by decide) ?_
  intro v108 T108 L108 X108 q108
  obtain ⟨rfl, M108, e108⟩ := q108
  have N108 := Fr.app N0 M108
  show Go _ _ _ _ T108 (mkF m 5 #[.val (.ref ab), .val (.int (4 : Int32)), .val (.int (16 : Int32)), .unset, .unset] []) _ _ _
  refine Go.iloadN X108 hx (hb hby d_cb3_5) rfl ?_
  show Go _ _ _ _ T108 (mkF m 6 #[.val (.ref ab), .val (.int (4 : Int32)), .val (.int (16 : Int32)), .unset, .unset] [(.int (16 : Int32))]) _ _ _
  refine Go.iloadN X108 hx (hb hby d_cb3_6) rfl ?_
  show Go _ _ _ _ T108 (mkF m 7 #[.val (.ref ab), .val (.int (4 : Int32)), .val (.int (16 : Int32)), .unset, .unset] [(.int (4 : Int32)), (.int (16 : Int32))]) _ _ _
  refine Go.isub X108 hx (hb hby d_cb3_7) ?_
  show Go _ _ _ _ T108 (mkF m 8 #[.val (.ref ab), .val (.int (4 : Int32)), .val (.int (16 : Int32)), .unset, .unset] [(.int (12 : Int32))]) _ _ _
  refine Go.istoreN X108 hx (hb hby d_cb3_8) (l' := #[.val (.ref ab), .val (.int (4 : Int32)), .val (.int (16 : Int32)), .val (.int (12 : Int32)), .unset]) rfl ?_
  show Go _ _ _ _ T108 (mkF m 9 #[.val (.ref ab), .val (.int (4 : Int32)), .val (.int (16 : Int32)), .val (.int (12 : Int32)), .unset] []) _ _ _
  refine Go.iloadN X108 hx (hb hby d_cb3_9) rfl ?_
  show Go _ _ _ _ T108 (mkF m 10 #[.val (.ref ab), .val (.int (4 : Int32)), .val (.int (16 : Int32)), .val (.int (12 : Int32)), .unset] [(.int (12 : Int32))]) _ _ _
  refine Go.newarray (aty := .byte) (cap := 12) X108 hx hZ (w10 hw) e108 (hb hby d_cb3_10) (by decide) (by decide) (by decide) (by decide) (by decide) ?_
  intro T109 h109 a109 k109 b109 X109 e109 E109 A109
  have g_a109 : n0 ≤ a109 := by rw [b109]; exact Z0
  have y_a109 : h0.size ≤ a109 := by rw [b109]; exact (Nat.le_refl _)
  have ne_ab_a109 : ab ≠ a109 := by rw [b109]; exact Nat.ne_of_lt f1.lt
  have Z109 : n0 ≤ h109.size := Nat.le_trans Z0 E109.1
  have B109 : h0.size ≤ h109.size := Nat.le_trans (Nat.le_refl _) E109.1
  show Go _ _ _ _ T109 (mkF m 12 #[.val (.ref ab), .val (.int (4 : Int32)), .val (.int (16 : Int32)), .val (.int (12 : Int32)), .unset] [(.ref a109)]) _ _ _
  refine Go.astore X109 hx (hb hby d_cb3_12) rfl (l' := #[.val (.ref ab), .val (.int (4 : Int32)), .val (.int (16 : Int32)), .val (.int (12 : Int32)), .val (.ref a109)]) rfl ?_
  show Go _ _ _ _ T109 (mkF m 14 #[.val (.ref ab), .val (.int (4 : Int32)), .val (.int (16 : Int32)), .val (.int (12 : Int32)), .val (.ref a109)] []) _ _ _
  refine Go.aloadN X109 hx (hb hby d_cb3_14) rfl rfl ?_
  show Go _ _ _ _ T109 (mkF m 15 #[.val (.ref ab), .val (.int (4 : Int32)), .val (.int (16 : Int32)), .val (.int (12 : Int32)), .val (.ref a109)] [(.ref ab)]) _ _ _
  refine Go.iloadN X109 hx (hb hby d_cb3_15) rfl ?_
  show Go _ _ _ _ T109 (mkF m 16 #[.val (.ref ab), .val (.int (4 : Int32)), .val (.int (16 : Int32)), .val (.int (12 : Int32)), .val (.ref a109)] [(.int (4 : Int32)), (.ref ab)]) _ _ _
  refine Go.aload X109 hx (hb hby d_cb3_16) rfl rfl ?_
  show Go _ _ _ _ T109 (mkF m 18 #[.val (.ref ab), .val (.int (4 : Int32)), .val (.int (16 : Int32)), .val (.int (12 : Int32)), .val (.ref a109)] [(.ref a109), (.int (4 : Int32)), (.ref ab)]) _ _ _
  refine Go.iconst X109 hx (hb hby d_cb3_18) ?_
  show Go _ _ _ _ T109 (mkF m 19 #[.val (.ref ab), .val (.int (4 : Int32)), .val (.int (16 : Int32)), .val (.int (12 : Int32)), .val (.ref a109)] [(.int (0 : Int32)), (.ref a109), (.int (4 : Int32)), (.ref ab)]) _ _ _
  refine Go.aloadN X109 hx (hb hby d_cb3_19) rfl rfl ?_
  show Go _ _ _ _ T109 (mkF m 20 #[.val (.ref ab), .val (.int (4 : Int32)), .val (.int (16 : Int32)), .val (.int (12 : Int32)), .val (.ref a109)] [(.ref ab), (.int (0 : Int32)), (.ref a109), (.int (4 : Int32)), (.ref ab)]) _ _ _
  refine Go.alen X109 hx hZ e109 (Af.ext E109 f1) (hb hby d_cb3_20) ?_
  show Go _ _ _ _ T109 (mkF m 21 #[.val (.ref ab), .val (.int (4 : Int32)), .val (.int (16 : Int32)), .val (.int (12 : Int32)), .val (.ref a109)] [(.int (256 : Int32)), (.int (0 : Int32)), (.ref a109), (.int (4 : Int32)), (.ref ab)]) _ _ _
  refine Go.iloadN X109 hx (hb hby d_cb3_21) rfl ?_
  show Go _ _ _ _ T109 (mkF m 22 #[.val (.ref ab), .val (.int (4 : Int32)), .val (.int (16 : Int32)), .val (.int (12 : Int32)), .val (.ref a109)] [(.int (4 : Int32)), (.int (256 : Int32)), (.int (0 : Int32)), (.ref a109), (.int (4 : Int32)), (.ref ab)]) _ _ _
  refine Go.isub X109 hx (hb hby d_cb3_22) ?_
  show Go _ _ _ _ T109 (mkF m 23 #[.val (.ref ab), .val (.int (4 : Int32)), .val (.int (16 : Int32)), .val (.int (12 : Int32)), .val (.ref a109)] [(.int (252 : Int32)), (.int (0 : Int32)), (.ref a109), (.int (4 : Int32)), (.ref ab)]) _ _ _
  refine Go.iloadN X109 hx (hb hby d_cb3_23) rfl ?_
  show Go _ _ _ _ T109 (mkF m 24 #[.val (.ref ab), .val (.int (4 : Int32)), .val (.int (16 : Int32)), .val (.int (12 : Int32)), .val (.ref a109)] [(.int (12 : Int32)), (.int (252 : Int32)), (.int (0 : Int32)), (.ref a109), (.int (4 : Int32)), (.ref ab)]) _ _ _
  refine Go.callS (W := 4) (argsL := [(.int (252 : Int32)), (.int (12 : Int32))]) (rest := [(.int (0 : Int32)), (.ref a109), (.int (4 : Int32)), (.ref ab)]) X109 hx hZ hown (w43 hw) (w44 hw) (w45 hw) (w46 hw) (by decide) (rm_min l Z a0 hw ((252 : Int32)) ((12 : Int32)) h109) e109 (lenOf pd_2 rfl) (hb hby d_cb3_24) (by rw [hml]; rfl) rfl (Nat.le_of_eq rfl) (by decide) (by decide) (by decide) (by decide) ?_
  intro v110 T110 L110 X110 q110
  obtain ⟨rfl, rfl, e110⟩ := q110
  have N110 := Fr.app N108 (Fr.nil n0)
  show Go _ _ _ _ T110 (mkF m 27 #[.val (.ref ab), .val (.int (4 : Int32)), .val (.int (16 : Int32)), .val (.int (12 : Int32)), .val (.ref a109)] [(.int (F_min (252 : Int32) (12 : Int32))), (.int (0 : Int32)), (.ref a109), (.int (4 : Int32)), (.ref ab)]) _ _ _
  refine Go.acopy (W := 0) X110 hx hZ hown (w47 hw) (w50 hw) (w48 hw) (w49 hw) e110 (Af.ext E109 f1) A109 rfl (fun i _ => f0 i) (fun _ _ => rfl) (by decide) (by decide) (by decide) (by decide) (by decide) N110 g_a109 (hb hby d_cb3_27) (by rw [hml]; rfl) (Nat.le_of_eq rfl) (by decide) (by decide) ?_
  intro T111 h111 L111 X111 e111 N111 K111 A111
  have Z111 : n0 ≤ h111.size := Nat.le_trans Z109 K111.1
  have B111 : h0.size ≤ h111.size := Nat.le_trans B109 K111.1
  have A112 : Af Z h111 a109 k109 .byte 12 (fun i => Value.int (g (i + 4))) := Af.congr A111 (fun i hi => by show Value.int (g (i + 4)) = if 0 ≤ i ∧ i < 0 + 12 then Value.int (g (4 + (i - 0))) else _; rw [if_pos ⟨by omega, by omega⟩, Nat.sub_zero, Nat.add_comm])
  show Go _ _ _ _ T111 (mkF m 30 #[.val (.ref ab), .val (.int (4 : Int32)), .val (.int (16 : Int32)), .val (.int (12 : Int32)), .val (.ref a109)] []) _ _ _
  refine Go.aload X111 hx (hb hby d_cb3_30) rfl rfl ?_
  show Go _ _ _ _ T111 (mkF m 32 #[.val (.ref ab), .val (.int (4 : Int32)), .val (.int (16 : Int32)), .val (.int (12 : Int32)), .val (.ref a109)] [(.ref a109)]) _ _ _
  refine Go.retR X111 hx hlk hret rfl rfl (hb hby d_cb3_32) (by decide) (by decide) ?_
  rw [e111]
  exact ⟨a109, k109, rfl, N111, (Keep.trans (Keep.ext (Keep.refl _ _) E109) K111 (allS (Or.inr y_a109) all0)), g_a109, y_a109, A112⟩
def Q_cr3 (Z : State) (ab : Addr) (kb : ClassId) (g : Nat → Int32) (h0 : Heap) (n0 : Nat) (v : Option Value) (h : Heap) (L : List Loc) : Prop := ∃ (r : Addr) (kr : ClassId), v = some (.ref r) ∧ Fr n0 L ∧ Keep h0 h [] ∧ n0 ≤ r ∧ h0.size ≤ r ∧ Af Z h r kr .byte 12 (fun i => Value.int (g (i + 4)))
theorem ef_cr3 (m : MethodId) (x0 : Addr) (x1 : Int32) (x2 : Int32) : entryFrame m #[(.ref x0), (.int x1), (.int x2)] 3 = mkF m 0 #[.val (.ref x0), .val (.int x1), .val (.int x2)] [] := by first | (simp [entryFrame, mkF, argsToLocals, Value.category]; done) | rfl
set_option maxRecDepth 65536 in
set_option maxHeartbeats 40000000 in
theorem rm_cr3 (l : Launch) (Z : State) (a0 : Array Value) (hw : ∀ d ∈ tables_1, d.before a0 Z = true) (ab : Addr) (kb : ClassId) (g : Nat → Int32) (h0 : Heap) (n0 : Nat) (Z0 : n0 ≤ h0.size) (f0 : okB g) (f1 : Af Z h0 ab kb .byte 256 (fun i => Value.int (g i))) :
    Met l Z (⟨"java/util/Arrays", "copyOfRange", "([BII)[B"⟩ : MethodName) jdk_65_method_132_code 3 (Option.some (Jvm.ClassFile.FieldType.array Jvm.ClassFile.FieldType.byte)) [] ({ frames := 2, cells := 1, slots := 12, locals := 34 } : Room) #[(.ref ab), (.int (4 : Int32)), (.int (16 : Int32))] h0 (Q_cr3 Z ab kb g h0 n0) := by
  refine Met.of (plainFor_of_name pn_cr3) ?_
  intro p e s m below meth c s₁ X0 hx hby hml hZ hown hnm e0 hret hlk
  refine Go.cast (ef_cr3 m ab ((4 : Int32)) ((16 : Int32))) ?_
  show Go _ _ _ _ s₁ (mkF m 0 #[.val (.ref ab), .val (.int (4 : Int32)), .val (.int (16 : Int32))] []) _ _ _
  have N0 := Fr.nil n0
  refine Go.iloadN X0 hx (hb hby d_cr3_0) rfl ?_
  show Go _ _ _ _ s₁ (mkF m 1 #[.val (.ref ab), .val (.int (4 : Int32)), .val (.int (16 : Int32))] [(.int (4 : Int32))]) _ _ _
  refine Go.ifYes X0 hx (hb hby d_cr3_1) (XT.i0_ne_t (by decide)) (pc' := 10) (by decide) (by decide) ?_
  show Go _ _ _ _ s₁ (mkF m 10 #[.val (.ref ab), .val (.int (4 : Int32)), .val (.int (16 : Int32))] []) _ _ _
  refine Go.aloadN X0 hx (hb hby d_cr3_10) rfl rfl ?_
  show Go _ _ _ _ s₁ (mkF m 11 #[.val (.ref ab), .val (.int (4 : Int32)), .val (.int (16 : Int32))] [(.ref ab)]) _ _ _
  refine Go.iloadN X0 hx (hb hby d_cr3_11) rfl ?_
  show Go _ _ _ _ s₁ (mkF m 12 #[.val (.ref ab), .val (.int (4 : Int32)), .val (.int (16 : Int32))] [(.int (4 : Int32)), (.ref ab)]) _ _ _
  refine Go.iloadN X0 hx (hb hby d_cr3_12) rfl ?_
  show Go _ _ _ _ s₁ (mkF m 13 #[.val (.ref ab), .val (.int (4 : Int32)), .val (.int (16 : Int32))] [(.int (16 : Int32)), (.int (4 : Int32)), (.ref ab)]) _ _ _
  refine Go.callS (W := 0) (argsL := [(.ref ab), (.int (4 : Int32)), (.int (16 : Int32))]) (rest := []) X0 hx hZ hown (w37 hw) (w38 hw) (w35 hw) (w39 hw) (by decide) (rm_cb3 l Z a0 hw ab kb g h0 n0 Z0 f0 f1) e0 (lenOf pd_3 rfl) (hb hby d_cr3_13) (by rw [hml]; rfl) rfl (Nat.le_of_eq rfl) (by decide) (by decide) (by decide) (by decide) ?_
  intro v113 T113 L113 X113 q113
  obtain ⟨r113, kr113, rfl, M113, K113, P113_0, P113_1, P113_2⟩ := q113
  have N113 := Fr.app N0 M113
  have Z113 : n0 ≤ T113.heap.size := Nat.le_trans Z0 K113.1
  have B113 : h0.size ≤ T113.heap.size := Nat.le_trans (Nat.le_refl _) K113.1
  have ne_ab_r113 : ab ≠ r113 := Nat.ne_of_lt (Nat.lt_of_lt_of_le (f1).lt P113_1)
  show Go _ _ _ _ T113 (mkF m 16 #[.val (.ref ab), .val (.int (4 : Int32)), .val (.int (16 : Int32))] [(.ref r113)]) _ _ _
  refine Go.retR X113 hx hlk hret rfl rfl (hb hby d_cr3_16) (by decide) (by decide) ?_
  exact ⟨r113, kr113, rfl, N113, (Keep.trans (Keep.refl _ _) K113 all0), P113_0, (Nat.le_trans (Nat.le_refl _) P113_1), P113_2⟩
def Q_tb3 (Z : State) (a : Addr) (ab : Addr) (kb : ClassId) (g : Nat → Int32) (h0 : Heap) (n0 : Nat) (v : Option Value) (h : Heap) (L : List Loc) : Prop := ∃ (r : Addr) (kr : ClassId), v = some (.ref r) ∧ Fr n0 L ∧ Keep h0 h [] ∧ n0 ≤ r ∧ h0.size ≤ r ∧ Af Z h r kr .byte 12 (fun i => Value.int (g (i + 4)))
theorem ef_tb3 (m : MethodId) (x0 : Addr) : entryFrame m #[(.ref x0)] 1 = mkF m 0 #[.val (.ref x0)] [] := by first | (simp [entryFrame, mkF, argsToLocals, Value.category]; done) | rfl
set_option maxRecDepth 65536 in
set_option maxHeartbeats 40000000 in
theorem rm_tb3 (l : Launch) (Z : State) (a0 : Array Value) (hw : ∀ d ∈ tables_1, d.before a0 Z = true) (a : Addr) (ab : Addr) (kb : ClassId) (g : Nat → Int32) (h0 : Heap) (n0 : Nat) (Z0 : n0 ≤ h0.size) (f0 : okB g) (f1 : Fld Z h0 a "com/example/farcall/farcall/XdrWriter" "bytes" "[B" (.ref ab)) (f2 : Fld Z h0 a "com/example/farcall/farcall/XdrWriter" "end" "I" (.int (16 : Int32))) (f3 : Af Z h0 ab kb .byte 256 (fun i => Value.int (g i))) :
    Met l Z (⟨"com/example/farcall/farcall/XdrWriter", "toByteArray", "()[B"⟩ : MethodName) prog_55_method_19_code 1 (Option.some (Jvm.ClassFile.FieldType.array Jvm.ClassFile.FieldType.byte)) [] ({ frames := 3, cells := 1, slots := 12, locals := 48 } : Room) #[(.ref a)] h0 (Q_tb3 Z a ab kb g h0 n0) := by
  refine Met.of (plainFor_of_name pn_tb3) ?_
  intro p e s m below meth c s₁ X0 hx hby hml hZ hown hnm e0 hret hlk
  refine Go.cast (ef_tb3 m a) ?_
  show Go _ _ _ _ s₁ (mkF m 0 #[.val (.ref a)] []) _ _ _
  have N0 := Fr.nil n0
  refine Go.aloadN X0 hx (hb hby d_tb3_0) rfl rfl ?_
  show Go _ _ _ _ s₁ (mkF m 1 #[.val (.ref a)] [(.ref a)]) _ _ _
  refine Go.getF X0 hx hZ hown (w11 hw) Via.refl e0 f1 (hb hby d_tb3_1) ?_
  intro T114 X114 e114
  show Go _ _ _ _ T114 (mkF m 4 #[.val (.ref a)] [(.ref ab)]) _ _ _
  refine Go.iconst X114 hx (hb hby d_tb3_4) ?_
  show Go _ _ _ _ T114 (mkF m 5 #[.val (.ref a)] [(.int (4 : Int32)), (.ref ab)]) _ _ _
  refine Go.aloadN X114 hx (hb hby d_tb3_5) rfl rfl ?_
  show Go _ _ _ _ T114 (mkF m 6 #[.val (.ref a)] [(.ref a), (.int (4 : Int32)), (.ref ab)]) _ _ _
  refine Go.getF X114 hx hZ hown (w13 hw) Via.refl e114 f2 (hb hby d_tb3_6) ?_
  intro T115 X115 e115
  show Go _ _ _ _ T115 (mkF m 9 #[.val (.ref a)] [(.int (16 : Int32)), (.int (4 : Int32)), (.ref ab)]) _ _ _
  refine Go.callS (W := 0) (argsL := [(.ref ab), (.int (4 : Int32)), (.int (16 : Int32))]) (rest := []) X115 hx hZ hown (w33 hw) (w34 hw) (w35 hw) (w36 hw) (by decide) (rm_cr3 l Z a0 hw ab kb g h0 n0 Z0 f0 f3) e115 (lenOf pd_3 rfl) (hb hby d_tb3_9) (by rw [hml]; rfl) rfl (Nat.le_of_eq rfl) (by decide) (by decide) (by decide) (by decide) ?_
  intro v116 T116 L116 X116 q116
  obtain ⟨r116, kr116, rfl, M116, K116, P116_0, P116_1, P116_2⟩ := q116
  have N116 := Fr.app N0 M116
  have Z116 : n0 ≤ T116.heap.size := Nat.le_trans Z0 K116.1
  have B116 : h0.size ≤ T116.heap.size := Nat.le_trans (Nat.le_refl _) K116.1
  have ne_ab_r116 : ab ≠ r116 := Nat.ne_of_lt (Nat.lt_of_lt_of_le (f3).lt P116_1)
  show Go _ _ _ _ T116 (mkF m 12 #[.val (.ref a)] [(.ref r116)]) _ _ _
  refine Go.retR X116 hx hlk hret rfl rfl (hb hby d_tb3_12) (by decide) (by decide) ?_
  exact ⟨r116, kr116, rfl, N116, (Keep.trans (Keep.refl _ _) K116 all0), P116_0, (Nat.le_trans (Nat.le_refl _) P116_1), P116_2⟩
def Q_un0 (Z : State) (r : Addr) (kr : ClassId) (g : Nat → Int32) (n : Nat) (h0 : Heap) (n0 : Nat) (v : Option Value) (h : Heap) (L : List Loc) : Prop := v = some (.int (unitV g 0)) ∧ Fr n0 L ∧ h = h0
theorem ef_un0 (m : MethodId) (x0 : Addr) (x1 : Int32) : entryFrame m #[(.ref x0), (.int x1)] 3 = mkF m 0 #[.val (.ref x0), .val (.int x1), .unset] [] := by first | (simp [entryFrame, mkF, argsToLocals, Value.category]; done) | rfl
set_option maxRecDepth 65536 in
set_option maxHeartbeats 40000000 in
theorem rm_un0 (l : Launch) (Z : State) (a0 : Array Value) (hw : ∀ d ∈ tables_1, d.before a0 Z = true) (r : Addr) (kr : ClassId) (g : Nat → Int32) (n : Nat) (h0 : Heap) (n0 : Nat) (Z0 : n0 ≤ h0.size) (f0 : Af Z h0 r kr .byte n (fun i => Value.int (g i))) (f1 : 4 ≤ n) :
    Met l Z (⟨"com/example/farcall/farcall/XdrWriterToByteArrayPinLaw", "unitAt", "([BI)I"⟩ : MethodName) method_3_code 3 (Option.some Jvm.ClassFile.FieldType.int) [] ({ frames := 0, cells := 0, slots := 0, locals := 0 } : Room) #[(.ref r), (.int (0 : Int32))] h0 (Q_un0 Z r kr g n h0 n0) := by
  refine Met.of (plainFor_of_name pn_un0) ?_
  intro p e s m below meth c s₁ X0 hx hby hml hZ hown hnm e0 hret hlk
  refine Go.cast (ef_un0 m r ((0 : Int32))) ?_
  show Go _ _ _ _ s₁ (mkF m 0 #[.val (.ref r), .val (.int (0 : Int32)), .unset] []) _ _ _
  have N0 := Fr.nil n0
  refine Go.iconst X0 hx (hb hby d_un0_0) ?_
  show Go _ _ _ _ s₁ (mkF m 1 #[.val (.ref r), .val (.int (0 : Int32)), .unset] [(.int (4 : Int32))]) _ _ _
  refine Go.iloadN X0 hx (hb hby d_un0_1) rfl ?_
  show Go _ _ _ _ s₁ (mkF m 2 #[.val (.ref r), .val (.int (0 : Int32)), .unset] [(.int (0 : Int32)), (.int (4 : Int32))]) _ _ _
  refine Go.imul X0 hx (hb hby d_un0_2) ?_
  show Go _ _ _ _ s₁ (mkF m 3 #[.val (.ref r), .val (.int (0 : Int32)), .unset] [(.int (0 : Int32))]) _ _ _
  refine Go.istoreN X0 hx (hb hby d_un0_3) (l' := #[.val (.ref r), .val (.int (0 : Int32)), .val (.int (0 : Int32))]) rfl ?_
  show Go _ _ _ _ s₁ (mkF m 4 #[.val (.ref r), .val (.int (0 : Int32)), .val (.int (0 : Int32))] []) _ _ _
  refine Go.aloadN X0 hx (hb hby d_un0_4) rfl rfl ?_
  show Go _ _ _ _ s₁ (mkF m 5 #[.val (.ref r), .val (.int (0 : Int32)), .val (.int (0 : Int32))] [(.ref r)]) _ _ _
  refine Go.iloadN X0 hx (hb hby d_un0_5) rfl ?_
  show Go _ _ _ _ s₁ (mkF m 6 #[.val (.ref r), .val (.int (0 : Int32)), .val (.int (0 : Int32))] [(.int (0 : Int32)), (.ref r)]) _ _ _
  refine Go.baloadB X0 hx hZ e0 f0 (by decide) (Nat.lt_of_lt_of_le (by decide) f1) (hb hby d_un0_6) ?_
  show Go _ _ _ _ s₁ (mkF m 7 #[.val (.ref r), .val (.int (0 : Int32)), .val (.int (0 : Int32))] [(.int (g 0))]) _ _ _
  refine Go.sipush X0 hx (hb hby d_un0_7) ?_
  show Go _ _ _ _ s₁ (mkF m 10 #[.val (.ref r), .val (.int (0 : Int32)), .val (.int (0 : Int32))] [(.int (255 : Int32)), (.int (g 0))]) _ _ _
  refine Go.iand X0 hx (hb hby d_un0_10) ?_
  show Go _ _ _ _ s₁ (mkF m 11 #[.val (.ref r), .val (.int (0 : Int32)), .val (.int (0 : Int32))] [(.int ((g 0) &&& (255 : Int32)))]) _ _ _
  refine Go.bipush X0 hx (hb hby d_un0_11) ?_
  show Go _ _ _ _ s₁ (mkF m 13 #[.val (.ref r), .val (.int (0 : Int32)), .val (.int (0 : Int32))] [(.int (24 : Int32)), (.int ((g 0) &&& (255 : Int32)))]) _ _ _
  refine Go.ishl X0 hx (hb hby d_un0_13) ?_
  show Go _ _ _ _ s₁ (mkF m 14 #[.val (.ref r), .val (.int (0 : Int32)), .val (.int (0 : Int32))] [(.int (((g 0) &&& (255 : Int32)) <<< ((24 : Int32) &&& 31)))]) _ _ _
  refine Go.aloadN X0 hx (hb hby d_un0_14) rfl rfl ?_
  show Go _ _ _ _ s₁ (mkF m 15 #[.val (.ref r), .val (.int (0 : Int32)), .val (.int (0 : Int32))] [(.ref r), (.int (((g 0) &&& (255 : Int32)) <<< ((24 : Int32) &&& 31)))]) _ _ _
  refine Go.iloadN X0 hx (hb hby d_un0_15) rfl ?_
  show Go _ _ _ _ s₁ (mkF m 16 #[.val (.ref r), .val (.int (0 : Int32)), .val (.int (0 : Int32))] [(.int (0 : Int32)), (.ref r), (.int (((g 0) &&& (255 : Int32)) <<< ((24 : Int32) &&& 31)))]) _ _ _
  refine Go.iconst X0 hx (hb hby d_un0_16) ?_
  show Go _ _ _ _ s₁ (mkF m 17 #[.val (.ref r), .val (.int (0 : Int32)), .val (.int (0 : Int32))] [(.int (1 : Int32)), (.int (0 : Int32)), (.ref r), (.int (((g 0) &&& (255 : Int32)) <<< ((24 : Int32) &&& 31)))]) _ _ _
  refine Go.iadd X0 hx (hb hby d_un0_17) ?_
  show Go _ _ _ _ s₁ (mkF m 18 #[.val (.ref r), .val (.int (0 : Int32)), .val (.int (0 : Int32))] [(.int (1 : Int32)), (.ref r), (.int (((g 0) &&& (255 : Int32)) <<< ((24 : Int32) &&& 31)))]) _ _ _
  refine Go.baloadB X0 hx hZ e0 f0 (by decide) (Nat.lt_of_lt_of_le (by decide) f1) (hb hby d_un0_18) ?_
  show Go _ _ _ _ s₁ (mkF m 19 #[.val (.ref r), .val (.int (0 : Int32)), .val (.int (0 : Int32))] [(.int (g 1)), (.int (((g 0) &&& (255 : Int32)) <<< ((24 : Int32) &&& 31)))]) _ _ _
  refine Go.sipush X0 hx (hb hby d_un0_19) ?_
  show Go _ _ _ _ s₁ (mkF m 22 #[.val (.ref r), .val (.int (0 : Int32)), .val (.int (0 : Int32))] [(.int (255 : Int32)), (.int (g 1)), (.int (((g 0) &&& (255 : Int32)) <<< ((24 : Int32) &&& 31)))]) _ _ _
  refine Go.iand X0 hx (hb hby d_un0_22) ?_
  show Go _ _ _ _ s₁ (mkF m 23 #[.val (.ref r), .val (.int (0 : Int32)), .val (.int (0 : Int32))] [(.int ((g 1) &&& (255 : Int32))), (.int (((g 0) &&& (255 : Int32)) <<< ((24 : Int32) &&& 31)))]) _ _ _
  refine Go.bipush X0 hx (hb hby d_un0_23) ?_
  show Go _ _ _ _ s₁ (mkF m 25 #[.val (.ref r), .val (.int (0 : Int32)), .val (.int (0 : Int32))] [(.int (16 : Int32)), (.int ((g 1) &&& (255 : Int32))), (.int (((g 0) &&& (255 : Int32)) <<< ((24 : Int32) &&& 31)))]) _ _ _
  refine Go.ishl X0 hx (hb hby d_un0_25) ?_
  show Go _ _ _ _ s₁ (mkF m 26 #[.val (.ref r), .val (.int (0 : Int32)), .val (.int (0 : Int32))] [(.int (((g 1) &&& (255 : Int32)) <<< ((16 : Int32) &&& 31))), (.int (((g 0) &&& (255 : Int32)) <<< ((24 : Int32) &&& 31)))]) _ _ _
  refine Go.ior X0 hx (hb hby d_un0_26) ?_
  show Go _ _ _ _ s₁ (mkF m 27 #[.val (.ref r), .val (.int (0 : Int32)), .val (.int (0 : Int32))] [(.int ((((g 0) &&& (255 : Int32)) <<< ((24 : Int32) &&& 31)) ||| (((g 1) &&& (255 : Int32)) <<< ((16 : Int32) &&& 31))))]) _ _ _
  refine Go.aloadN X0 hx (hb hby d_un0_27) rfl rfl ?_
  show Go _ _ _ _ s₁ (mkF m 28 #[.val (.ref r), .val (.int (0 : Int32)), .val (.int (0 : Int32))] [(.ref r), (.int ((((g 0) &&& (255 : Int32)) <<< ((24 : Int32) &&& 31)) ||| (((g 1) &&& (255 : Int32)) <<< ((16 : Int32) &&& 31))))]) _ _ _
  refine Go.iloadN X0 hx (hb hby d_un0_28) rfl ?_
  show Go _ _ _ _ s₁ (mkF m 29 #[.val (.ref r), .val (.int (0 : Int32)), .val (.int (0 : Int32))] [(.int (0 : Int32)), (.ref r), (.int ((((g 0) &&& (255 : Int32)) <<< ((24 : Int32) &&& 31)) ||| (((g 1) &&& (255 : Int32)) <<< ((16 : Int32) &&& 31))))]) _ _ _
  refine Go.iconst X0 hx (hb hby d_un0_29) ?_
  show Go _ _ _ _ s₁ (mkF m 30 #[.val (.ref r), .val (.int (0 : Int32)), .val (.int (0 : Int32))] [(.int (2 : Int32)), (.int (0 : Int32)), (.ref r), (.int ((((g 0) &&& (255 : Int32)) <<< ((24 : Int32) &&& 31)) ||| (((g 1) &&& (255 : Int32)) <<< ((16 : Int32) &&& 31))))]) _ _ _
  refine Go.iadd X0 hx (hb hby d_un0_30) ?_
  show Go _ _ _ _ s₁ (mkF m 31 #[.val (.ref r), .val (.int (0 : Int32)), .val (.int (0 : Int32))] [(.int (2 : Int32)), (.ref r), (.int ((((g 0) &&& (255 : Int32)) <<< ((24 : Int32) &&& 31)) ||| (((g 1) &&& (255 : Int32)) <<< ((16 : Int32) &&& 31))))]) _ _ _
  refine Go.baloadB X0 hx hZ e0 f0 (by decide) (Nat.lt_of_lt_of_le (by decide) f1) (hb hby d_un0_31) ?_
  show Go _ _ _ _ s₁ (mkF m 32 #[.val (.ref r), .val (.int (0 : Int32)), .val (.int (0 : Int32))] [(.int (g 2)), (.int ((((g 0) &&& (255 : Int32)) <<< ((24 : Int32) &&& 31)) ||| (((g 1) &&& (255 : Int32)) <<< ((16 : Int32) &&& 31))))]) _ _ _
  refine Go.sipush X0 hx (hb hby d_un0_32) ?_
  show Go _ _ _ _ s₁ (mkF m 35 #[.val (.ref r), .val (.int (0 : Int32)), .val (.int (0 : Int32))] [(.int (255 : Int32)), (.int (g 2)), (.int ((((g 0) &&& (255 : Int32)) <<< ((24 : Int32) &&& 31)) ||| (((g 1) &&& (255 : Int32)) <<< ((16 : Int32) &&& 31))))]) _ _ _
  refine Go.iand X0 hx (hb hby d_un0_35) ?_
  show Go _ _ _ _ s₁ (mkF m 36 #[.val (.ref r), .val (.int (0 : Int32)), .val (.int (0 : Int32))] [(.int ((g 2) &&& (255 : Int32))), (.int ((((g 0) &&& (255 : Int32)) <<< ((24 : Int32) &&& 31)) ||| (((g 1) &&& (255 : Int32)) <<< ((16 : Int32) &&& 31))))]) _ _ _
  refine Go.bipush X0 hx (hb hby d_un0_36) ?_
  show Go _ _ _ _ s₁ (mkF m 38 #[.val (.ref r), .val (.int (0 : Int32)), .val (.int (0 : Int32))] [(.int (8 : Int32)), (.int ((g 2) &&& (255 : Int32))), (.int ((((g 0) &&& (255 : Int32)) <<< ((24 : Int32) &&& 31)) ||| (((g 1) &&& (255 : Int32)) <<< ((16 : Int32) &&& 31))))]) _ _ _
  refine Go.ishl X0 hx (hb hby d_un0_38) ?_
  show Go _ _ _ _ s₁ (mkF m 39 #[.val (.ref r), .val (.int (0 : Int32)), .val (.int (0 : Int32))] [(.int (((g 2) &&& (255 : Int32)) <<< ((8 : Int32) &&& 31))), (.int ((((g 0) &&& (255 : Int32)) <<< ((24 : Int32) &&& 31)) ||| (((g 1) &&& (255 : Int32)) <<< ((16 : Int32) &&& 31))))]) _ _ _
  refine Go.ior X0 hx (hb hby d_un0_39) ?_
  show Go _ _ _ _ s₁ (mkF m 40 #[.val (.ref r), .val (.int (0 : Int32)), .val (.int (0 : Int32))] [(.int (((((g 0) &&& (255 : Int32)) <<< ((24 : Int32) &&& 31)) ||| (((g 1) &&& (255 : Int32)) <<< ((16 : Int32) &&& 31))) ||| (((g 2) &&& (255 : Int32)) <<< ((8 : Int32) &&& 31))))]) _ _ _
  refine Go.aloadN X0 hx (hb hby d_un0_40) rfl rfl ?_
  show Go _ _ _ _ s₁ (mkF m 41 #[.val (.ref r), .val (.int (0 : Int32)), .val (.int (0 : Int32))] [(.ref r), (.int (((((g 0) &&& (255 : Int32)) <<< ((24 : Int32) &&& 31)) ||| (((g 1) &&& (255 : Int32)) <<< ((16 : Int32) &&& 31))) ||| (((g 2) &&& (255 : Int32)) <<< ((8 : Int32) &&& 31))))]) _ _ _
  refine Go.iloadN X0 hx (hb hby d_un0_41) rfl ?_
  show Go _ _ _ _ s₁ (mkF m 42 #[.val (.ref r), .val (.int (0 : Int32)), .val (.int (0 : Int32))] [(.int (0 : Int32)), (.ref r), (.int (((((g 0) &&& (255 : Int32)) <<< ((24 : Int32) &&& 31)) ||| (((g 1) &&& (255 : Int32)) <<< ((16 : Int32) &&& 31))) ||| (((g 2) &&& (255 : Int32)) <<< ((8 : Int32) &&& 31))))]) _ _ _
  refine Go.iconst X0 hx (hb hby d_un0_42) ?_
  show Go _ _ _ _ s₁ (mkF m 43 #[.val (.ref r), .val (.int (0 : Int32)), .val (.int (0 : Int32))] [(.int (3 : Int32)), (.int (0 : Int32)), (.ref r), (.int (((((g 0) &&& (255 : Int32)) <<< ((24 : Int32) &&& 31)) ||| (((g 1) &&& (255 : Int32)) <<< ((16 : Int32) &&& 31))) ||| (((g 2) &&& (255 : Int32)) <<< ((8 : Int32) &&& 31))))]) _ _ _
  refine Go.iadd X0 hx (hb hby d_un0_43) ?_
  show Go _ _ _ _ s₁ (mkF m 44 #[.val (.ref r), .val (.int (0 : Int32)), .val (.int (0 : Int32))] [(.int (3 : Int32)), (.ref r), (.int (((((g 0) &&& (255 : Int32)) <<< ((24 : Int32) &&& 31)) ||| (((g 1) &&& (255 : Int32)) <<< ((16 : Int32) &&& 31))) ||| (((g 2) &&& (255 : Int32)) <<< ((8 : Int32) &&& 31))))]) _ _ _
  refine Go.baloadB X0 hx hZ e0 f0 (by decide) (Nat.lt_of_lt_of_le (by decide) f1) (hb hby d_un0_44) ?_
  show Go _ _ _ _ s₁ (mkF m 45 #[.val (.ref r), .val (.int (0 : Int32)), .val (.int (0 : Int32))] [(.int (g 3)), (.int (((((g 0) &&& (255 : Int32)) <<< ((24 : Int32) &&& 31)) ||| (((g 1) &&& (255 : Int32)) <<< ((16 : Int32) &&& 31))) ||| (((g 2) &&& (255 : Int32)) <<< ((8 : Int32) &&& 31))))]) _ _ _
  refine Go.sipush X0 hx (hb hby d_un0_45) ?_
  show Go _ _ _ _ s₁ (mkF m 48 #[.val (.ref r), .val (.int (0 : Int32)), .val (.int (0 : Int32))] [(.int (255 : Int32)), (.int (g 3)), (.int (((((g 0) &&& (255 : Int32)) <<< ((24 : Int32) &&& 31)) ||| (((g 1) &&& (255 : Int32)) <<< ((16 : Int32) &&& 31))) ||| (((g 2) &&& (255 : Int32)) <<< ((8 : Int32) &&& 31))))]) _ _ _
  refine Go.iand X0 hx (hb hby d_un0_48) ?_
  show Go _ _ _ _ s₁ (mkF m 49 #[.val (.ref r), .val (.int (0 : Int32)), .val (.int (0 : Int32))] [(.int ((g 3) &&& (255 : Int32))), (.int (((((g 0) &&& (255 : Int32)) <<< ((24 : Int32) &&& 31)) ||| (((g 1) &&& (255 : Int32)) <<< ((16 : Int32) &&& 31))) ||| (((g 2) &&& (255 : Int32)) <<< ((8 : Int32) &&& 31))))]) _ _ _
  refine Go.ior X0 hx (hb hby d_un0_49) ?_
  show Go _ _ _ _ s₁ (mkF m 50 #[.val (.ref r), .val (.int (0 : Int32)), .val (.int (0 : Int32))] [(.int ((((((g 0) &&& (255 : Int32)) <<< ((24 : Int32) &&& 31)) ||| (((g 1) &&& (255 : Int32)) <<< ((16 : Int32) &&& 31))) ||| (((g 2) &&& (255 : Int32)) <<< ((8 : Int32) &&& 31))) ||| ((g 3) &&& (255 : Int32))))]) _ _ _
  refine Go.retI X0 hx hlk hret (hb hby d_un0_50) (by decide) (by decide) ?_
  rw [e0]
  exact ⟨rfl, N0, rfl⟩
def Q_un1 (Z : State) (r : Addr) (kr : ClassId) (g : Nat → Int32) (n : Nat) (h0 : Heap) (n0 : Nat) (v : Option Value) (h : Heap) (L : List Loc) : Prop := v = some (.int (unitV g 1)) ∧ Fr n0 L ∧ h = h0
theorem ef_un1 (m : MethodId) (x0 : Addr) (x1 : Int32) : entryFrame m #[(.ref x0), (.int x1)] 3 = mkF m 0 #[.val (.ref x0), .val (.int x1), .unset] [] := by first | (simp [entryFrame, mkF, argsToLocals, Value.category]; done) | rfl
set_option maxRecDepth 65536 in
set_option maxHeartbeats 40000000 in
theorem rm_un1 (l : Launch) (Z : State) (a0 : Array Value) (hw : ∀ d ∈ tables_1, d.before a0 Z = true) (r : Addr) (kr : ClassId) (g : Nat → Int32) (n : Nat) (h0 : Heap) (n0 : Nat) (Z0 : n0 ≤ h0.size) (f0 : Af Z h0 r kr .byte n (fun i => Value.int (g i))) (f1 : 8 ≤ n) :
    Met l Z (⟨"com/example/farcall/farcall/XdrWriterToByteArrayPinLaw", "unitAt", "([BI)I"⟩ : MethodName) method_3_code 3 (Option.some Jvm.ClassFile.FieldType.int) [] ({ frames := 0, cells := 0, slots := 0, locals := 0 } : Room) #[(.ref r), (.int (1 : Int32))] h0 (Q_un1 Z r kr g n h0 n0) := by
  refine Met.of (plainFor_of_name pn_un1) ?_
  intro p e s m below meth c s₁ X0 hx hby hml hZ hown hnm e0 hret hlk
  refine Go.cast (ef_un1 m r ((1 : Int32))) ?_
  show Go _ _ _ _ s₁ (mkF m 0 #[.val (.ref r), .val (.int (1 : Int32)), .unset] []) _ _ _
  have N0 := Fr.nil n0
  refine Go.iconst X0 hx (hb hby d_un1_0) ?_
  show Go _ _ _ _ s₁ (mkF m 1 #[.val (.ref r), .val (.int (1 : Int32)), .unset] [(.int (4 : Int32))]) _ _ _
  refine Go.iloadN X0 hx (hb hby d_un1_1) rfl ?_
  show Go _ _ _ _ s₁ (mkF m 2 #[.val (.ref r), .val (.int (1 : Int32)), .unset] [(.int (1 : Int32)), (.int (4 : Int32))]) _ _ _
  refine Go.imul X0 hx (hb hby d_un1_2) ?_
  show Go _ _ _ _ s₁ (mkF m 3 #[.val (.ref r), .val (.int (1 : Int32)), .unset] [(.int (4 : Int32))]) _ _ _
  refine Go.istoreN X0 hx (hb hby d_un1_3) (l' := #[.val (.ref r), .val (.int (1 : Int32)), .val (.int (4 : Int32))]) rfl ?_
  show Go _ _ _ _ s₁ (mkF m 4 #[.val (.ref r), .val (.int (1 : Int32)), .val (.int (4 : Int32))] []) _ _ _
  refine Go.aloadN X0 hx (hb hby d_un1_4) rfl rfl ?_
  show Go _ _ _ _ s₁ (mkF m 5 #[.val (.ref r), .val (.int (1 : Int32)), .val (.int (4 : Int32))] [(.ref r)]) _ _ _
  refine Go.iloadN X0 hx (hb hby d_un1_5) rfl ?_
  show Go _ _ _ _ s₁ (mkF m 6 #[.val (.ref r), .val (.int (1 : Int32)), .val (.int (4 : Int32))] [(.int (4 : Int32)), (.ref r)]) _ _ _
  refine Go.baloadB X0 hx hZ e0 f0 (by decide) (Nat.lt_of_lt_of_le (by decide) f1) (hb hby d_un1_6) ?_
  show Go _ _ _ _ s₁ (mkF m 7 #[.val (.ref r), .val (.int (1 : Int32)), .val (.int (4 : Int32))] [(.int (g 4))]) _ _ _
  refine Go.sipush X0 hx (hb hby d_un1_7) ?_
  show Go _ _ _ _ s₁ (mkF m 10 #[.val (.ref r), .val (.int (1 : Int32)), .val (.int (4 : Int32))] [(.int (255 : Int32)), (.int (g 4))]) _ _ _
  refine Go.iand X0 hx (hb hby d_un1_10) ?_
  show Go _ _ _ _ s₁ (mkF m 11 #[.val (.ref r), .val (.int (1 : Int32)), .val (.int (4 : Int32))] [(.int ((g 4) &&& (255 : Int32)))]) _ _ _
  refine Go.bipush X0 hx (hb hby d_un1_11) ?_
  show Go _ _ _ _ s₁ (mkF m 13 #[.val (.ref r), .val (.int (1 : Int32)), .val (.int (4 : Int32))] [(.int (24 : Int32)), (.int ((g 4) &&& (255 : Int32)))]) _ _ _
  refine Go.ishl X0 hx (hb hby d_un1_13) ?_
  show Go _ _ _ _ s₁ (mkF m 14 #[.val (.ref r), .val (.int (1 : Int32)), .val (.int (4 : Int32))] [(.int (((g 4) &&& (255 : Int32)) <<< ((24 : Int32) &&& 31)))]) _ _ _
  refine Go.aloadN X0 hx (hb hby d_un1_14) rfl rfl ?_
  show Go _ _ _ _ s₁ (mkF m 15 #[.val (.ref r), .val (.int (1 : Int32)), .val (.int (4 : Int32))] [(.ref r), (.int (((g 4) &&& (255 : Int32)) <<< ((24 : Int32) &&& 31)))]) _ _ _
  refine Go.iloadN X0 hx (hb hby d_un1_15) rfl ?_
  show Go _ _ _ _ s₁ (mkF m 16 #[.val (.ref r), .val (.int (1 : Int32)), .val (.int (4 : Int32))] [(.int (4 : Int32)), (.ref r), (.int (((g 4) &&& (255 : Int32)) <<< ((24 : Int32) &&& 31)))]) _ _ _
  refine Go.iconst X0 hx (hb hby d_un1_16) ?_
  show Go _ _ _ _ s₁ (mkF m 17 #[.val (.ref r), .val (.int (1 : Int32)), .val (.int (4 : Int32))] [(.int (1 : Int32)), (.int (4 : Int32)), (.ref r), (.int (((g 4) &&& (255 : Int32)) <<< ((24 : Int32) &&& 31)))]) _ _ _
  refine Go.iadd X0 hx (hb hby d_un1_17) ?_
  show Go _ _ _ _ s₁ (mkF m 18 #[.val (.ref r), .val (.int (1 : Int32)), .val (.int (4 : Int32))] [(.int (5 : Int32)), (.ref r), (.int (((g 4) &&& (255 : Int32)) <<< ((24 : Int32) &&& 31)))]) _ _ _
  refine Go.baloadB X0 hx hZ e0 f0 (by decide) (Nat.lt_of_lt_of_le (by decide) f1) (hb hby d_un1_18) ?_
  show Go _ _ _ _ s₁ (mkF m 19 #[.val (.ref r), .val (.int (1 : Int32)), .val (.int (4 : Int32))] [(.int (g 5)), (.int (((g 4) &&& (255 : Int32)) <<< ((24 : Int32) &&& 31)))]) _ _ _
  refine Go.sipush X0 hx (hb hby d_un1_19) ?_
  show Go _ _ _ _ s₁ (mkF m 22 #[.val (.ref r), .val (.int (1 : Int32)), .val (.int (4 : Int32))] [(.int (255 : Int32)), (.int (g 5)), (.int (((g 4) &&& (255 : Int32)) <<< ((24 : Int32) &&& 31)))]) _ _ _
  refine Go.iand X0 hx (hb hby d_un1_22) ?_
  show Go _ _ _ _ s₁ (mkF m 23 #[.val (.ref r), .val (.int (1 : Int32)), .val (.int (4 : Int32))] [(.int ((g 5) &&& (255 : Int32))), (.int (((g 4) &&& (255 : Int32)) <<< ((24 : Int32) &&& 31)))]) _ _ _
  refine Go.bipush X0 hx (hb hby d_un1_23) ?_
  show Go _ _ _ _ s₁ (mkF m 25 #[.val (.ref r), .val (.int (1 : Int32)), .val (.int (4 : Int32))] [(.int (16 : Int32)), (.int ((g 5) &&& (255 : Int32))), (.int (((g 4) &&& (255 : Int32)) <<< ((24 : Int32) &&& 31)))]) _ _ _
  refine Go.ishl X0 hx (hb hby d_un1_25) ?_
  show Go _ _ _ _ s₁ (mkF m 26 #[.val (.ref r), .val (.int (1 : Int32)), .val (.int (4 : Int32))] [(.int (((g 5) &&& (255 : Int32)) <<< ((16 : Int32) &&& 31))), (.int (((g 4) &&& (255 : Int32)) <<< ((24 : Int32) &&& 31)))]) _ _ _
  refine Go.ior X0 hx (hb hby d_un1_26) ?_
  show Go _ _ _ _ s₁ (mkF m 27 #[.val (.ref r), .val (.int (1 : Int32)), .val (.int (4 : Int32))] [(.int ((((g 4) &&& (255 : Int32)) <<< ((24 : Int32) &&& 31)) ||| (((g 5) &&& (255 : Int32)) <<< ((16 : Int32) &&& 31))))]) _ _ _
  refine Go.aloadN X0 hx (hb hby d_un1_27) rfl rfl ?_
  show Go _ _ _ _ s₁ (mkF m 28 #[.val (.ref r), .val (.int (1 : Int32)), .val (.int (4 : Int32))] [(.ref r), (.int ((((g 4) &&& (255 : Int32)) <<< ((24 : Int32) &&& 31)) ||| (((g 5) &&& (255 : Int32)) <<< ((16 : Int32) &&& 31))))]) _ _ _
  refine Go.iloadN X0 hx (hb hby d_un1_28) rfl ?_
  show Go _ _ _ _ s₁ (mkF m 29 #[.val (.ref r), .val (.int (1 : Int32)), .val (.int (4 : Int32))] [(.int (4 : Int32)), (.ref r), (.int ((((g 4) &&& (255 : Int32)) <<< ((24 : Int32) &&& 31)) ||| (((g 5) &&& (255 : Int32)) <<< ((16 : Int32) &&& 31))))]) _ _ _
  refine Go.iconst X0 hx (hb hby d_un1_29) ?_
  show Go _ _ _ _ s₁ (mkF m 30 #[.val (.ref r), .val (.int (1 : Int32)), .val (.int (4 : Int32))] [(.int (2 : Int32)), (.int (4 : Int32)), (.ref r), (.int ((((g 4) &&& (255 : Int32)) <<< ((24 : Int32) &&& 31)) ||| (((g 5) &&& (255 : Int32)) <<< ((16 : Int32) &&& 31))))]) _ _ _
  refine Go.iadd X0 hx (hb hby d_un1_30) ?_
  show Go _ _ _ _ s₁ (mkF m 31 #[.val (.ref r), .val (.int (1 : Int32)), .val (.int (4 : Int32))] [(.int (6 : Int32)), (.ref r), (.int ((((g 4) &&& (255 : Int32)) <<< ((24 : Int32) &&& 31)) ||| (((g 5) &&& (255 : Int32)) <<< ((16 : Int32) &&& 31))))]) _ _ _
  refine Go.baloadB X0 hx hZ e0 f0 (by decide) (Nat.lt_of_lt_of_le (by decide) f1) (hb hby d_un1_31) ?_
  show Go _ _ _ _ s₁ (mkF m 32 #[.val (.ref r), .val (.int (1 : Int32)), .val (.int (4 : Int32))] [(.int (g 6)), (.int ((((g 4) &&& (255 : Int32)) <<< ((24 : Int32) &&& 31)) ||| (((g 5) &&& (255 : Int32)) <<< ((16 : Int32) &&& 31))))]) _ _ _
  refine Go.sipush X0 hx (hb hby d_un1_32) ?_
  show Go _ _ _ _ s₁ (mkF m 35 #[.val (.ref r), .val (.int (1 : Int32)), .val (.int (4 : Int32))] [(.int (255 : Int32)), (.int (g 6)), (.int ((((g 4) &&& (255 : Int32)) <<< ((24 : Int32) &&& 31)) ||| (((g 5) &&& (255 : Int32)) <<< ((16 : Int32) &&& 31))))]) _ _ _
  refine Go.iand X0 hx (hb hby d_un1_35) ?_
  show Go _ _ _ _ s₁ (mkF m 36 #[.val (.ref r), .val (.int (1 : Int32)), .val (.int (4 : Int32))] [(.int ((g 6) &&& (255 : Int32))), (.int ((((g 4) &&& (255 : Int32)) <<< ((24 : Int32) &&& 31)) ||| (((g 5) &&& (255 : Int32)) <<< ((16 : Int32) &&& 31))))]) _ _ _
  refine Go.bipush X0 hx (hb hby d_un1_36) ?_
  show Go _ _ _ _ s₁ (mkF m 38 #[.val (.ref r), .val (.int (1 : Int32)), .val (.int (4 : Int32))] [(.int (8 : Int32)), (.int ((g 6) &&& (255 : Int32))), (.int ((((g 4) &&& (255 : Int32)) <<< ((24 : Int32) &&& 31)) ||| (((g 5) &&& (255 : Int32)) <<< ((16 : Int32) &&& 31))))]) _ _ _
  refine Go.ishl X0 hx (hb hby d_un1_38) ?_
  show Go _ _ _ _ s₁ (mkF m 39 #[.val (.ref r), .val (.int (1 : Int32)), .val (.int (4 : Int32))] [(.int (((g 6) &&& (255 : Int32)) <<< ((8 : Int32) &&& 31))), (.int ((((g 4) &&& (255 : Int32)) <<< ((24 : Int32) &&& 31)) ||| (((g 5) &&& (255 : Int32)) <<< ((16 : Int32) &&& 31))))]) _ _ _
  refine Go.ior X0 hx (hb hby d_un1_39) ?_
  show Go _ _ _ _ s₁ (mkF m 40 #[.val (.ref r), .val (.int (1 : Int32)), .val (.int (4 : Int32))] [(.int (((((g 4) &&& (255 : Int32)) <<< ((24 : Int32) &&& 31)) ||| (((g 5) &&& (255 : Int32)) <<< ((16 : Int32) &&& 31))) ||| (((g 6) &&& (255 : Int32)) <<< ((8 : Int32) &&& 31))))]) _ _ _
  refine Go.aloadN X0 hx (hb hby d_un1_40) rfl rfl ?_
  show Go _ _ _ _ s₁ (mkF m 41 #[.val (.ref r), .val (.int (1 : Int32)), .val (.int (4 : Int32))] [(.ref r), (.int (((((g 4) &&& (255 : Int32)) <<< ((24 : Int32) &&& 31)) ||| (((g 5) &&& (255 : Int32)) <<< ((16 : Int32) &&& 31))) ||| (((g 6) &&& (255 : Int32)) <<< ((8 : Int32) &&& 31))))]) _ _ _
  refine Go.iloadN X0 hx (hb hby d_un1_41) rfl ?_
  show Go _ _ _ _ s₁ (mkF m 42 #[.val (.ref r), .val (.int (1 : Int32)), .val (.int (4 : Int32))] [(.int (4 : Int32)), (.ref r), (.int (((((g 4) &&& (255 : Int32)) <<< ((24 : Int32) &&& 31)) ||| (((g 5) &&& (255 : Int32)) <<< ((16 : Int32) &&& 31))) ||| (((g 6) &&& (255 : Int32)) <<< ((8 : Int32) &&& 31))))]) _ _ _
  refine Go.iconst X0 hx (hb hby d_un1_42) ?_
  show Go _ _ _ _ s₁ (mkF m 43 #[.val (.ref r), .val (.int (1 : Int32)), .val (.int (4 : Int32))] [(.int (3 : Int32)), (.int (4 : Int32)), (.ref r), (.int (((((g 4) &&& (255 : Int32)) <<< ((24 : Int32) &&& 31)) ||| (((g 5) &&& (255 : Int32)) <<< ((16 : Int32) &&& 31))) ||| (((g 6) &&& (255 : Int32)) <<< ((8 : Int32) &&& 31))))]) _ _ _
  refine Go.iadd X0 hx (hb hby d_un1_43) ?_
  show Go _ _ _ _ s₁ (mkF m 44 #[.val (.ref r), .val (.int (1 : Int32)), .val (.int (4 : Int32))] [(.int (7 : Int32)), (.ref r), (.int (((((g 4) &&& (255 : Int32)) <<< ((24 : Int32) &&& 31)) ||| (((g 5) &&& (255 : Int32)) <<< ((16 : Int32) &&& 31))) ||| (((g 6) &&& (255 : Int32)) <<< ((8 : Int32) &&& 31))))]) _ _ _
  refine Go.baloadB X0 hx hZ e0 f0 (by decide) (Nat.lt_of_lt_of_le (by decide) f1) (hb hby d_un1_44) ?_
  show Go _ _ _ _ s₁ (mkF m 45 #[.val (.ref r), .val (.int (1 : Int32)), .val (.int (4 : Int32))] [(.int (g 7)), (.int (((((g 4) &&& (255 : Int32)) <<< ((24 : Int32) &&& 31)) ||| (((g 5) &&& (255 : Int32)) <<< ((16 : Int32) &&& 31))) ||| (((g 6) &&& (255 : Int32)) <<< ((8 : Int32) &&& 31))))]) _ _ _
  refine Go.sipush X0 hx (hb hby d_un1_45) ?_
  show Go _ _ _ _ s₁ (mkF m 48 #[.val (.ref r), .val (.int (1 : Int32)), .val (.int (4 : Int32))] [(.int (255 : Int32)), (.int (g 7)), (.int (((((g 4) &&& (255 : Int32)) <<< ((24 : Int32) &&& 31)) ||| (((g 5) &&& (255 : Int32)) <<< ((16 : Int32) &&& 31))) ||| (((g 6) &&& (255 : Int32)) <<< ((8 : Int32) &&& 31))))]) _ _ _
  refine Go.iand X0 hx (hb hby d_un1_48) ?_
  show Go _ _ _ _ s₁ (mkF m 49 #[.val (.ref r), .val (.int (1 : Int32)), .val (.int (4 : Int32))] [(.int ((g 7) &&& (255 : Int32))), (.int (((((g 4) &&& (255 : Int32)) <<< ((24 : Int32) &&& 31)) ||| (((g 5) &&& (255 : Int32)) <<< ((16 : Int32) &&& 31))) ||| (((g 6) &&& (255 : Int32)) <<< ((8 : Int32) &&& 31))))]) _ _ _
  refine Go.ior X0 hx (hb hby d_un1_49) ?_
  show Go _ _ _ _ s₁ (mkF m 50 #[.val (.ref r), .val (.int (1 : Int32)), .val (.int (4 : Int32))] [(.int ((((((g 4) &&& (255 : Int32)) <<< ((24 : Int32) &&& 31)) ||| (((g 5) &&& (255 : Int32)) <<< ((16 : Int32) &&& 31))) ||| (((g 6) &&& (255 : Int32)) <<< ((8 : Int32) &&& 31))) ||| ((g 7) &&& (255 : Int32))))]) _ _ _
  refine Go.retI X0 hx hlk hret (hb hby d_un1_50) (by decide) (by decide) ?_
  rw [e0]
  exact ⟨rfl, N0, rfl⟩
def Q_un2 (Z : State) (r : Addr) (kr : ClassId) (g : Nat → Int32) (n : Nat) (h0 : Heap) (n0 : Nat) (v : Option Value) (h : Heap) (L : List Loc) : Prop := v = some (.int (unitV g 2)) ∧ Fr n0 L ∧ h = h0
theorem ef_un2 (m : MethodId) (x0 : Addr) (x1 : Int32) : entryFrame m #[(.ref x0), (.int x1)] 3 = mkF m 0 #[.val (.ref x0), .val (.int x1), .unset] [] := by first | (simp [entryFrame, mkF, argsToLocals, Value.category]; done) | rfl
set_option maxRecDepth 65536 in
set_option maxHeartbeats 40000000 in
theorem rm_un2 (l : Launch) (Z : State) (a0 : Array Value) (hw : ∀ d ∈ tables_1, d.before a0 Z = true) (r : Addr) (kr : ClassId) (g : Nat → Int32) (n : Nat) (h0 : Heap) (n0 : Nat) (Z0 : n0 ≤ h0.size) (f0 : Af Z h0 r kr .byte n (fun i => Value.int (g i))) (f1 : 12 ≤ n) :
    Met l Z (⟨"com/example/farcall/farcall/XdrWriterToByteArrayPinLaw", "unitAt", "([BI)I"⟩ : MethodName) method_3_code 3 (Option.some Jvm.ClassFile.FieldType.int) [] ({ frames := 0, cells := 0, slots := 0, locals := 0 } : Room) #[(.ref r), (.int (2 : Int32))] h0 (Q_un2 Z r kr g n h0 n0) := by
  refine Met.of (plainFor_of_name pn_un2) ?_
  intro p e s m below meth c s₁ X0 hx hby hml hZ hown hnm e0 hret hlk
  refine Go.cast (ef_un2 m r ((2 : Int32))) ?_
  show Go _ _ _ _ s₁ (mkF m 0 #[.val (.ref r), .val (.int (2 : Int32)), .unset] []) _ _ _
  have N0 := Fr.nil n0
  refine Go.iconst X0 hx (hb hby d_un2_0) ?_
  show Go _ _ _ _ s₁ (mkF m 1 #[.val (.ref r), .val (.int (2 : Int32)), .unset] [(.int (4 : Int32))]) _ _ _
  refine Go.iloadN X0 hx (hb hby d_un2_1) rfl ?_
  show Go _ _ _ _ s₁ (mkF m 2 #[.val (.ref r), .val (.int (2 : Int32)), .unset] [(.int (2 : Int32)), (.int (4 : Int32))]) _ _ _
  refine Go.imul X0 hx (hb hby d_un2_2) ?_
  show Go _ _ _ _ s₁ (mkF m 3 #[.val (.ref r), .val (.int (2 : Int32)), .unset] [(.int (8 : Int32))]) _ _ _
  refine Go.istoreN X0 hx (hb hby d_un2_3) (l' := #[.val (.ref r), .val (.int (2 : Int32)), .val (.int (8 : Int32))]) rfl ?_
  show Go _ _ _ _ s₁ (mkF m 4 #[.val (.ref r), .val (.int (2 : Int32)), .val (.int (8 : Int32))] []) _ _ _
  refine Go.aloadN X0 hx (hb hby d_un2_4) rfl rfl ?_
  show Go _ _ _ _ s₁ (mkF m 5 #[.val (.ref r), .val (.int (2 : Int32)), .val (.int (8 : Int32))] [(.ref r)]) _ _ _
  refine Go.iloadN X0 hx (hb hby d_un2_5) rfl ?_
  show Go _ _ _ _ s₁ (mkF m 6 #[.val (.ref r), .val (.int (2 : Int32)), .val (.int (8 : Int32))] [(.int (8 : Int32)), (.ref r)]) _ _ _
  refine Go.baloadB X0 hx hZ e0 f0 (by decide) (Nat.lt_of_lt_of_le (by decide) f1) (hb hby d_un2_6) ?_
  show Go _ _ _ _ s₁ (mkF m 7 #[.val (.ref r), .val (.int (2 : Int32)), .val (.int (8 : Int32))] [(.int (g 8))]) _ _ _
  refine Go.sipush X0 hx (hb hby d_un2_7) ?_
  show Go _ _ _ _ s₁ (mkF m 10 #[.val (.ref r), .val (.int (2 : Int32)), .val (.int (8 : Int32))] [(.int (255 : Int32)), (.int (g 8))]) _ _ _
  refine Go.iand X0 hx (hb hby d_un2_10) ?_
  show Go _ _ _ _ s₁ (mkF m 11 #[.val (.ref r), .val (.int (2 : Int32)), .val (.int (8 : Int32))] [(.int ((g 8) &&& (255 : Int32)))]) _ _ _
  refine Go.bipush X0 hx (hb hby d_un2_11) ?_
  show Go _ _ _ _ s₁ (mkF m 13 #[.val (.ref r), .val (.int (2 : Int32)), .val (.int (8 : Int32))] [(.int (24 : Int32)), (.int ((g 8) &&& (255 : Int32)))]) _ _ _
  refine Go.ishl X0 hx (hb hby d_un2_13) ?_
  show Go _ _ _ _ s₁ (mkF m 14 #[.val (.ref r), .val (.int (2 : Int32)), .val (.int (8 : Int32))] [(.int (((g 8) &&& (255 : Int32)) <<< ((24 : Int32) &&& 31)))]) _ _ _
  refine Go.aloadN X0 hx (hb hby d_un2_14) rfl rfl ?_
  show Go _ _ _ _ s₁ (mkF m 15 #[.val (.ref r), .val (.int (2 : Int32)), .val (.int (8 : Int32))] [(.ref r), (.int (((g 8) &&& (255 : Int32)) <<< ((24 : Int32) &&& 31)))]) _ _ _
  refine Go.iloadN X0 hx (hb hby d_un2_15) rfl ?_
  show Go _ _ _ _ s₁ (mkF m 16 #[.val (.ref r), .val (.int (2 : Int32)), .val (.int (8 : Int32))] [(.int (8 : Int32)), (.ref r), (.int (((g 8) &&& (255 : Int32)) <<< ((24 : Int32) &&& 31)))]) _ _ _
  refine Go.iconst X0 hx (hb hby d_un2_16) ?_
  show Go _ _ _ _ s₁ (mkF m 17 #[.val (.ref r), .val (.int (2 : Int32)), .val (.int (8 : Int32))] [(.int (1 : Int32)), (.int (8 : Int32)), (.ref r), (.int (((g 8) &&& (255 : Int32)) <<< ((24 : Int32) &&& 31)))]) _ _ _
  refine Go.iadd X0 hx (hb hby d_un2_17) ?_
  show Go _ _ _ _ s₁ (mkF m 18 #[.val (.ref r), .val (.int (2 : Int32)), .val (.int (8 : Int32))] [(.int (9 : Int32)), (.ref r), (.int (((g 8) &&& (255 : Int32)) <<< ((24 : Int32) &&& 31)))]) _ _ _
  refine Go.baloadB X0 hx hZ e0 f0 (by decide) (Nat.lt_of_lt_of_le (by decide) f1) (hb hby d_un2_18) ?_
  show Go _ _ _ _ s₁ (mkF m 19 #[.val (.ref r), .val (.int (2 : Int32)), .val (.int (8 : Int32))] [(.int (g 9)), (.int (((g 8) &&& (255 : Int32)) <<< ((24 : Int32) &&& 31)))]) _ _ _
  refine Go.sipush X0 hx (hb hby d_un2_19) ?_
  show Go _ _ _ _ s₁ (mkF m 22 #[.val (.ref r), .val (.int (2 : Int32)), .val (.int (8 : Int32))] [(.int (255 : Int32)), (.int (g 9)), (.int (((g 8) &&& (255 : Int32)) <<< ((24 : Int32) &&& 31)))]) _ _ _
  refine Go.iand X0 hx (hb hby d_un2_22) ?_
  show Go _ _ _ _ s₁ (mkF m 23 #[.val (.ref r), .val (.int (2 : Int32)), .val (.int (8 : Int32))] [(.int ((g 9) &&& (255 : Int32))), (.int (((g 8) &&& (255 : Int32)) <<< ((24 : Int32) &&& 31)))]) _ _ _
  refine Go.bipush X0 hx (hb hby d_un2_23) ?_
  show Go _ _ _ _ s₁ (mkF m 25 #[.val (.ref r), .val (.int (2 : Int32)), .val (.int (8 : Int32))] [(.int (16 : Int32)), (.int ((g 9) &&& (255 : Int32))), (.int (((g 8) &&& (255 : Int32)) <<< ((24 : Int32) &&& 31)))]) _ _ _
  refine Go.ishl X0 hx (hb hby d_un2_25) ?_
  show Go _ _ _ _ s₁ (mkF m 26 #[.val (.ref r), .val (.int (2 : Int32)), .val (.int (8 : Int32))] [(.int (((g 9) &&& (255 : Int32)) <<< ((16 : Int32) &&& 31))), (.int (((g 8) &&& (255 : Int32)) <<< ((24 : Int32) &&& 31)))]) _ _ _
  refine Go.ior X0 hx (hb hby d_un2_26) ?_
  show Go _ _ _ _ s₁ (mkF m 27 #[.val (.ref r), .val (.int (2 : Int32)), .val (.int (8 : Int32))] [(.int ((((g 8) &&& (255 : Int32)) <<< ((24 : Int32) &&& 31)) ||| (((g 9) &&& (255 : Int32)) <<< ((16 : Int32) &&& 31))))]) _ _ _
  refine Go.aloadN X0 hx (hb hby d_un2_27) rfl rfl ?_
  show Go _ _ _ _ s₁ (mkF m 28 #[.val (.ref r), .val (.int (2 : Int32)), .val (.int (8 : Int32))] [(.ref r), (.int ((((g 8) &&& (255 : Int32)) <<< ((24 : Int32) &&& 31)) ||| (((g 9) &&& (255 : Int32)) <<< ((16 : Int32) &&& 31))))]) _ _ _
  refine Go.iloadN X0 hx (hb hby d_un2_28) rfl ?_
  show Go _ _ _ _ s₁ (mkF m 29 #[.val (.ref r), .val (.int (2 : Int32)), .val (.int (8 : Int32))] [(.int (8 : Int32)), (.ref r), (.int ((((g 8) &&& (255 : Int32)) <<< ((24 : Int32) &&& 31)) ||| (((g 9) &&& (255 : Int32)) <<< ((16 : Int32) &&& 31))))]) _ _ _
  refine Go.iconst X0 hx (hb hby d_un2_29) ?_
  show Go _ _ _ _ s₁ (mkF m 30 #[.val (.ref r), .val (.int (2 : Int32)), .val (.int (8 : Int32))] [(.int (2 : Int32)), (.int (8 : Int32)), (.ref r), (.int ((((g 8) &&& (255 : Int32)) <<< ((24 : Int32) &&& 31)) ||| (((g 9) &&& (255 : Int32)) <<< ((16 : Int32) &&& 31))))]) _ _ _
  refine Go.iadd X0 hx (hb hby d_un2_30) ?_
  show Go _ _ _ _ s₁ (mkF m 31 #[.val (.ref r), .val (.int (2 : Int32)), .val (.int (8 : Int32))] [(.int (10 : Int32)), (.ref r), (.int ((((g 8) &&& (255 : Int32)) <<< ((24 : Int32) &&& 31)) ||| (((g 9) &&& (255 : Int32)) <<< ((16 : Int32) &&& 31))))]) _ _ _
  refine Go.baloadB X0 hx hZ e0 f0 (by decide) (Nat.lt_of_lt_of_le (by decide) f1) (hb hby d_un2_31) ?_
  show Go _ _ _ _ s₁ (mkF m 32 #[.val (.ref r), .val (.int (2 : Int32)), .val (.int (8 : Int32))] [(.int (g 10)), (.int ((((g 8) &&& (255 : Int32)) <<< ((24 : Int32) &&& 31)) ||| (((g 9) &&& (255 : Int32)) <<< ((16 : Int32) &&& 31))))]) _ _ _
  refine Go.sipush X0 hx (hb hby d_un2_32) ?_
  show Go _ _ _ _ s₁ (mkF m 35 #[.val (.ref r), .val (.int (2 : Int32)), .val (.int (8 : Int32))] [(.int (255 : Int32)), (.int (g 10)), (.int ((((g 8) &&& (255 : Int32)) <<< ((24 : Int32) &&& 31)) ||| (((g 9) &&& (255 : Int32)) <<< ((16 : Int32) &&& 31))))]) _ _ _
  refine Go.iand X0 hx (hb hby d_un2_35) ?_
  show Go _ _ _ _ s₁ (mkF m 36 #[.val (.ref r), .val (.int (2 : Int32)), .val (.int (8 : Int32))] [(.int ((g 10) &&& (255 : Int32))), (.int ((((g 8) &&& (255 : Int32)) <<< ((24 : Int32) &&& 31)) ||| (((g 9) &&& (255 : Int32)) <<< ((16 : Int32) &&& 31))))]) _ _ _
  refine Go.bipush X0 hx (hb hby d_un2_36) ?_
  show Go _ _ _ _ s₁ (mkF m 38 #[.val (.ref r), .val (.int (2 : Int32)), .val (.int (8 : Int32))] [(.int (8 : Int32)), (.int ((g 10) &&& (255 : Int32))), (.int ((((g 8) &&& (255 : Int32)) <<< ((24 : Int32) &&& 31)) ||| (((g 9) &&& (255 : Int32)) <<< ((16 : Int32) &&& 31))))]) _ _ _
  refine Go.ishl X0 hx (hb hby d_un2_38) ?_
  show Go _ _ _ _ s₁ (mkF m 39 #[.val (.ref r), .val (.int (2 : Int32)), .val (.int (8 : Int32))] [(.int (((g 10) &&& (255 : Int32)) <<< ((8 : Int32) &&& 31))), (.int ((((g 8) &&& (255 : Int32)) <<< ((24 : Int32) &&& 31)) ||| (((g 9) &&& (255 : Int32)) <<< ((16 : Int32) &&& 31))))]) _ _ _
  refine Go.ior X0 hx (hb hby d_un2_39) ?_
  show Go _ _ _ _ s₁ (mkF m 40 #[.val (.ref r), .val (.int (2 : Int32)), .val (.int (8 : Int32))] [(.int (((((g 8) &&& (255 : Int32)) <<< ((24 : Int32) &&& 31)) ||| (((g 9) &&& (255 : Int32)) <<< ((16 : Int32) &&& 31))) ||| (((g 10) &&& (255 : Int32)) <<< ((8 : Int32) &&& 31))))]) _ _ _
  refine Go.aloadN X0 hx (hb hby d_un2_40) rfl rfl ?_
  show Go _ _ _ _ s₁ (mkF m 41 #[.val (.ref r), .val (.int (2 : Int32)), .val (.int (8 : Int32))] [(.ref r), (.int (((((g 8) &&& (255 : Int32)) <<< ((24 : Int32) &&& 31)) ||| (((g 9) &&& (255 : Int32)) <<< ((16 : Int32) &&& 31))) ||| (((g 10) &&& (255 : Int32)) <<< ((8 : Int32) &&& 31))))]) _ _ _
  refine Go.iloadN X0 hx (hb hby d_un2_41) rfl ?_
  show Go _ _ _ _ s₁ (mkF m 42 #[.val (.ref r), .val (.int (2 : Int32)), .val (.int (8 : Int32))] [(.int (8 : Int32)), (.ref r), (.int (((((g 8) &&& (255 : Int32)) <<< ((24 : Int32) &&& 31)) ||| (((g 9) &&& (255 : Int32)) <<< ((16 : Int32) &&& 31))) ||| (((g 10) &&& (255 : Int32)) <<< ((8 : Int32) &&& 31))))]) _ _ _
  refine Go.iconst X0 hx (hb hby d_un2_42) ?_
  show Go _ _ _ _ s₁ (mkF m 43 #[.val (.ref r), .val (.int (2 : Int32)), .val (.int (8 : Int32))] [(.int (3 : Int32)), (.int (8 : Int32)), (.ref r), (.int (((((g 8) &&& (255 : Int32)) <<< ((24 : Int32) &&& 31)) ||| (((g 9) &&& (255 : Int32)) <<< ((16 : Int32) &&& 31))) ||| (((g 10) &&& (255 : Int32)) <<< ((8 : Int32) &&& 31))))]) _ _ _
  refine Go.iadd X0 hx (hb hby d_un2_43) ?_
  show Go _ _ _ _ s₁ (mkF m 44 #[.val (.ref r), .val (.int (2 : Int32)), .val (.int (8 : Int32))] [(.int (11 : Int32)), (.ref r), (.int (((((g 8) &&& (255 : Int32)) <<< ((24 : Int32) &&& 31)) ||| (((g 9) &&& (255 : Int32)) <<< ((16 : Int32) &&& 31))) ||| (((g 10) &&& (255 : Int32)) <<< ((8 : Int32) &&& 31))))]) _ _ _
  refine Go.baloadB X0 hx hZ e0 f0 (by decide) (Nat.lt_of_lt_of_le (by decide) f1) (hb hby d_un2_44) ?_
  show Go _ _ _ _ s₁ (mkF m 45 #[.val (.ref r), .val (.int (2 : Int32)), .val (.int (8 : Int32))] [(.int (g 11)), (.int (((((g 8) &&& (255 : Int32)) <<< ((24 : Int32) &&& 31)) ||| (((g 9) &&& (255 : Int32)) <<< ((16 : Int32) &&& 31))) ||| (((g 10) &&& (255 : Int32)) <<< ((8 : Int32) &&& 31))))]) _ _ _
  refine Go.sipush X0 hx (hb hby d_un2_45) ?_
  show Go _ _ _ _ s₁ (mkF m 48 #[.val (.ref r), .val (.int (2 : Int32)), .val (.int (8 : Int32))] [(.int (255 : Int32)), (.int (g 11)), (.int (((((g 8) &&& (255 : Int32)) <<< ((24 : Int32) &&& 31)) ||| (((g 9) &&& (255 : Int32)) <<< ((16 : Int32) &&& 31))) ||| (((g 10) &&& (255 : Int32)) <<< ((8 : Int32) &&& 31))))]) _ _ _
  refine Go.iand X0 hx (hb hby d_un2_48) ?_
  show Go _ _ _ _ s₁ (mkF m 49 #[.val (.ref r), .val (.int (2 : Int32)), .val (.int (8 : Int32))] [(.int ((g 11) &&& (255 : Int32))), (.int (((((g 8) &&& (255 : Int32)) <<< ((24 : Int32) &&& 31)) ||| (((g 9) &&& (255 : Int32)) <<< ((16 : Int32) &&& 31))) ||| (((g 10) &&& (255 : Int32)) <<< ((8 : Int32) &&& 31))))]) _ _ _
  refine Go.ior X0 hx (hb hby d_un2_49) ?_
  show Go _ _ _ _ s₁ (mkF m 50 #[.val (.ref r), .val (.int (2 : Int32)), .val (.int (8 : Int32))] [(.int ((((((g 8) &&& (255 : Int32)) <<< ((24 : Int32) &&& 31)) ||| (((g 9) &&& (255 : Int32)) <<< ((16 : Int32) &&& 31))) ||| (((g 10) &&& (255 : Int32)) <<< ((8 : Int32) &&& 31))) ||| ((g 11) &&& (255 : Int32))))]) _ _ _
  refine Go.retI X0 hx hlk hret (hb hby d_un2_50) (by decide) (by decide) ?_
  rw [e0]
  exact ⟨rfl, N0, rfl⟩
def Q_ma0 (Z : State) (r : Addr) (u : Addr) (kr : ClassId) (g : Nat → Int32) (ku : ClassId) (uf : Nat → Int32) (h0 : Heap) (n0 : Nat) (v : Option Value) (h : Heap) (L : List Loc) : Prop := v = some (.int (1 : Int32)) ∧ Fr n0 L ∧ h = h0
theorem ef_ma0 (m : MethodId) (x0 : Addr) (x1 : Addr) (x2 : Int32) : entryFrame m #[(.ref x0), (.ref x1), (.int x2)] 3 = mkF m 0 #[.val (.ref x0), .val (.ref x1), .val (.int x2)] [] := by first | (simp [entryFrame, mkF, argsToLocals, Value.category]; done) | rfl
set_option maxRecDepth 65536 in
set_option maxHeartbeats 40000000 in
theorem rm_ma0 (l : Launch) (Z : State) (a0 : Array Value) (hw : ∀ d ∈ tables_1, d.before a0 Z = true) (r : Addr) (u : Addr) (kr : ClassId) (g : Nat → Int32) (ku : ClassId) (uf : Nat → Int32) (h0 : Heap) (n0 : Nat) (Z0 : n0 ≤ h0.size) (f0 : Af Z h0 r kr .byte 0 (fun i => Value.int (g i))) (f1 : Af Z h0 u ku .int 3 (fun i => Value.int (uf i))) :
    Met l Z (⟨"com/example/farcall/farcall/XdrWriterToByteArrayPinLaw", "matches", "([B[II)Z"⟩ : MethodName) method_4_code 3 (Option.some Jvm.ClassFile.FieldType.boolean) [] ({ frames := 0, cells := 0, slots := 0, locals := 0 } : Room) #[(.ref r), (.ref u), (.int (0 : Int32))] h0 (Q_ma0 Z r u kr g ku uf h0 n0) := by
  refine Met.of (plainFor_of_name pn_ma0) ?_
  intro p e s m below meth c s₁ X0 hx hby hml hZ hown hnm e0 hret hlk
  refine Go.cast (ef_ma0 m r u ((0 : Int32))) ?_
  show Go _ _ _ _ s₁ (mkF m 0 #[.val (.ref r), .val (.ref u), .val (.int (0 : Int32))] []) _ _ _
  have N0 := Fr.nil n0
  refine Go.aloadN X0 hx (hb hby d_ma0_0) rfl rfl ?_
  show Go _ _ _ _ s₁ (mkF m 1 #[.val (.ref r), .val (.ref u), .val (.int (0 : Int32))] [(.ref r)]) _ _ _
  refine Go.alen X0 hx hZ e0 f0 (hb hby d_ma0_1) ?_
  show Go _ _ _ _ s₁ (mkF m 2 #[.val (.ref r), .val (.ref u), .val (.int (0 : Int32))] [(.int (0 : Int32))]) _ _ _
  refine Go.iconst X0 hx (hb hby d_ma0_2) ?_
  show Go _ _ _ _ s₁ (mkF m 3 #[.val (.ref r), .val (.ref u), .val (.int (0 : Int32))] [(.int (4 : Int32)), (.int (0 : Int32))]) _ _ _
  refine Go.iloadN X0 hx (hb hby d_ma0_3) rfl ?_
  show Go _ _ _ _ s₁ (mkF m 4 #[.val (.ref r), .val (.ref u), .val (.int (0 : Int32))] [(.int (0 : Int32)), (.int (4 : Int32)), (.int (0 : Int32))]) _ _ _
  refine Go.imul X0 hx (hb hby d_ma0_4) ?_
  show Go _ _ _ _ s₁ (mkF m 5 #[.val (.ref r), .val (.ref u), .val (.int (0 : Int32))] [(.int (0 : Int32)), (.int (0 : Int32))]) _ _ _
  refine Go.icmpYes X0 hx (hb hby d_ma0_5) (XT.ii_eq_t (by decide)) (pc' := 10) (by decide) (by decide) ?_
  show Go _ _ _ _ s₁ (mkF m 10 #[.val (.ref r), .val (.ref u), .val (.int (0 : Int32))] []) _ _ _
  refine Go.iloadN X0 hx (hb hby d_ma0_10) rfl ?_
  show Go _ _ _ _ s₁ (mkF m 11 #[.val (.ref r), .val (.ref u), .val (.int (0 : Int32))] [(.int (0 : Int32))]) _ _ _
  refine Go.ifYes X0 hx (hb hby d_ma0_11) (XT.i0_le_t (by decide)) (pc' := 27) (by decide) (by decide) ?_
  show Go _ _ _ _ s₁ (mkF m 27 #[.val (.ref r), .val (.ref u), .val (.int (0 : Int32))] []) _ _ _
  refine Go.iloadN X0 hx (hb hby d_ma0_27) rfl ?_
  show Go _ _ _ _ s₁ (mkF m 28 #[.val (.ref r), .val (.ref u), .val (.int (0 : Int32))] [(.int (0 : Int32))]) _ _ _
  refine Go.iconst X0 hx (hb hby d_ma0_28) ?_
  show Go _ _ _ _ s₁ (mkF m 29 #[.val (.ref r), .val (.ref u), .val (.int (0 : Int32))] [(.int (1 : Int32)), (.int (0 : Int32))]) _ _ _
  refine Go.icmpYes X0 hx (hb hby d_ma0_29) (XT.ii_le_t (by decide)) (pc' := 45) (by decide) (by decide) ?_
  show Go _ _ _ _ s₁ (mkF m 45 #[.val (.ref r), .val (.ref u), .val (.int (0 : Int32))] []) _ _ _
  refine Go.iloadN X0 hx (hb hby d_ma0_45) rfl ?_
  show Go _ _ _ _ s₁ (mkF m 46 #[.val (.ref r), .val (.ref u), .val (.int (0 : Int32))] [(.int (0 : Int32))]) _ _ _
  refine Go.iconst X0 hx (hb hby d_ma0_46) ?_
  show Go _ _ _ _ s₁ (mkF m 47 #[.val (.ref r), .val (.ref u), .val (.int (0 : Int32))] [(.int (2 : Int32)), (.int (0 : Int32))]) _ _ _
  refine Go.icmpYes X0 hx (hb hby d_ma0_47) (XT.ii_le_t (by decide)) (pc' := 63) (by decide) (by decide) ?_
  show Go _ _ _ _ s₁ (mkF m 63 #[.val (.ref r), .val (.ref u), .val (.int (0 : Int32))] []) _ _ _
  refine Go.iconst X0 hx (hb hby d_ma0_63) ?_
  show Go _ _ _ _ s₁ (mkF m 64 #[.val (.ref r), .val (.ref u), .val (.int (0 : Int32))] [(.int (1 : Int32))]) _ _ _
  refine Go.retZ X0 hx hlk hret (by decide) (hb hby d_ma0_64) (by decide) (by decide) ?_
  rw [e0]
  exact ⟨rfl, N0, rfl⟩
def Q_ma1 (Z : State) (r : Addr) (u : Addr) (kr : ClassId) (g : Nat → Int32) (ku : ClassId) (uf : Nat → Int32) (h0 : Heap) (n0 : Nat) (v : Option Value) (h : Heap) (L : List Loc) : Prop := v = some (.int (1 : Int32)) ∧ Fr n0 L ∧ h = h0
theorem ef_ma1 (m : MethodId) (x0 : Addr) (x1 : Addr) (x2 : Int32) : entryFrame m #[(.ref x0), (.ref x1), (.int x2)] 3 = mkF m 0 #[.val (.ref x0), .val (.ref x1), .val (.int x2)] [] := by first | (simp [entryFrame, mkF, argsToLocals, Value.category]; done) | rfl
set_option maxRecDepth 65536 in
set_option maxHeartbeats 40000000 in
theorem rm_ma1 (l : Launch) (Z : State) (a0 : Array Value) (hw : ∀ d ∈ tables_1, d.before a0 Z = true) (r : Addr) (u : Addr) (kr : ClassId) (g : Nat → Int32) (ku : ClassId) (uf : Nat → Int32) (h0 : Heap) (n0 : Nat) (Z0 : n0 ≤ h0.size) (f0 : Af Z h0 r kr .byte 4 (fun i => Value.int (g i))) (f1 : Af Z h0 u ku .int 3 (fun i => Value.int (uf i))) (f2 : unitV g 0 = uf 0) :
    Met l Z (⟨"com/example/farcall/farcall/XdrWriterToByteArrayPinLaw", "matches", "([B[II)Z"⟩ : MethodName) method_4_code 3 (Option.some Jvm.ClassFile.FieldType.boolean) [] ({ frames := 1, cells := 0, slots := 0, locals := 14 } : Room) #[(.ref r), (.ref u), (.int (1 : Int32))] h0 (Q_ma1 Z r u kr g ku uf h0 n0) := by
  refine Met.of (plainFor_of_name pn_ma1) ?_
  intro p e s m below meth c s₁ X0 hx hby hml hZ hown hnm e0 hret hlk
  refine Go.cast (ef_ma1 m r u ((1 : Int32))) ?_
  show Go _ _ _ _ s₁ (mkF m 0 #[.val (.ref r), .val (.ref u), .val (.int (1 : Int32))] []) _ _ _
  have N0 := Fr.nil n0
  refine Go.aloadN X0 hx (hb hby d_ma1_0) rfl rfl ?_
  show Go _ _ _ _ s₁ (mkF m 1 #[.val (.ref r), .val (.ref u), .val (.int (1 : Int32))] [(.ref r)]) _ _ _
  refine Go.alen X0 hx hZ e0 f0 (hb hby d_ma1_1) ?_
  show Go _ _ _ _ s₁ (mkF m 2 #[.val (.ref r), .val (.ref u), .val (.int (1 : Int32))] [(.int (4 : Int32))]) _ _ _
  refine Go.iconst X0 hx (hb hby d_ma1_2) ?_
  show Go _ _ _ _ s₁ (mkF m 3 #[.val (.ref r), .val (.ref u), .val (.int (1 : Int32))] [(.int (4 : Int32)), (.int (4 : Int32))]) _ _ _
  refine Go.iloadN X0 hx (hb hby d_ma1_3) rfl ?_
  show Go _ _ _ _ s₁ (mkF m 4 #[.val (.ref r), .val (.ref u), .val (.int (1 : Int32))] [(.int (1 : Int32)), (.int (4 : Int32)), (.int (4 : Int32))]) _ _ _
  refine Go.imul X0 hx (hb hby d_ma1_4) ?_
  show Go _ _ _ _ s₁ (mkF m 5 #[.val (.ref r), .val (.ref u), .val (.int (1 : Int32))] [(.int (4 : Int32)), (.int (4 : Int32))]) _ _ _
  refine Go.icmpYes X0 hx (hb hby d_ma1_5) (XT.ii_eq_t (by decide)) (pc' := 10) (by decide) (by decide) ?_
  show Go _ _ _ _ s₁ (mkF m 10 #[.val (.ref r), .val (.ref u), .val (.int (1 : Int32))] []) _ _ _
  refine Go.iloadN X0 hx (hb hby d_ma1_10) rfl ?_
  show Go _ _ _ _ s₁ (mkF m 11 #[.val (.ref r), .val (.ref u), .val (.int (1 : Int32))] [(.int (1 : Int32))]) _ _ _
  refine Go.ifNo X0 hx (hb hby d_ma1_11) (XT.i0_le_f (by decide)) ?_
  show Go _ _ _ _ s₁ (mkF m 14 #[.val (.ref r), .val (.ref u), .val (.int (1 : Int32))] []) _ _ _
  refine Go.aloadN X0 hx (hb hby d_ma1_14) rfl rfl ?_
  show Go _ _ _ _ s₁ (mkF m 15 #[.val (.ref r), .val (.ref u), .val (.int (1 : Int32))] [(.ref r)]) _ _ _
  refine Go.iconst X0 hx (hb hby d_ma1_15) ?_
  show Go _ _ _ _ s₁ (mkF m 16 #[.val (.ref r), .val (.ref u), .val (.int (1 : Int32))] [(.int (0 : Int32)), (.ref r)]) _ _ _
  refine Go.callS (W := 0) (argsL := [(.ref r), (.int (0 : Int32))]) (rest := []) X0 hx hZ hown (w55 hw) (w56 hw) (w53 hw) (w57 hw) (by decide) (rm_un0 l Z a0 hw r kr g 4 h0 n0 Z0 f0 (by decide)) e0 (lenOf pd_4 rfl) (hb hby d_ma1_16) (by rw [hml]; rfl) rfl (Nat.le_of_eq rfl) (by decide) (by decide) (by decide) (by decide) ?_
  intro v117 T117 L117 X117 q117
  obtain ⟨rfl, M117, e117⟩ := q117
  have N117 := Fr.app N0 M117
  show Go _ _ _ _ T117 (mkF m 19 #[.val (.ref r), .val (.ref u), .val (.int (1 : Int32))] [(.int (unitV g 0))]) _ _ _
  refine Go.aloadN X117 hx (hb hby d_ma1_19) rfl rfl ?_
  show Go _ _ _ _ T117 (mkF m 20 #[.val (.ref r), .val (.ref u), .val (.int (1 : Int32))] [(.ref u), (.int (unitV g 0))]) _ _ _
  refine Go.iconst X117 hx (hb hby d_ma1_20) ?_
  show Go _ _ _ _ T117 (mkF m 21 #[.val (.ref r), .val (.ref u), .val (.int (1 : Int32))] [(.int (0 : Int32)), (.ref u), (.int (unitV g 0))]) _ _ _
  refine Go.iaload X117 hx hZ e117 f1 (by decide) (by decide) (hb hby d_ma1_21) ?_
  show Go _ _ _ _ T117 (mkF m 22 #[.val (.ref r), .val (.ref u), .val (.int (1 : Int32))] [(.int (uf 0)), (.int (unitV g 0))]) _ _ _
  refine Go.icmpYes X117 hx (hb hby d_ma1_22) (XT.ii_eq_t f2) (pc' := 27) (by decide) (by decide) ?_
  show Go _ _ _ _ T117 (mkF m 27 #[.val (.ref r), .val (.ref u), .val (.int (1 : Int32))] []) _ _ _
  refine Go.iloadN X117 hx (hb hby d_ma1_27) rfl ?_
  show Go _ _ _ _ T117 (mkF m 28 #[.val (.ref r), .val (.ref u), .val (.int (1 : Int32))] [(.int (1 : Int32))]) _ _ _
  refine Go.iconst X117 hx (hb hby d_ma1_28) ?_
  show Go _ _ _ _ T117 (mkF m 29 #[.val (.ref r), .val (.ref u), .val (.int (1 : Int32))] [(.int (1 : Int32)), (.int (1 : Int32))]) _ _ _
  refine Go.icmpYes X117 hx (hb hby d_ma1_29) (XT.ii_le_t (by decide)) (pc' := 45) (by decide) (by decide) ?_
  show Go _ _ _ _ T117 (mkF m 45 #[.val (.ref r), .val (.ref u), .val (.int (1 : Int32))] []) _ _ _
  refine Go.iloadN X117 hx (hb hby d_ma1_45) rfl ?_
  show Go _ _ _ _ T117 (mkF m 46 #[.val (.ref r), .val (.ref u), .val (.int (1 : Int32))] [(.int (1 : Int32))]) _ _ _
  refine Go.iconst X117 hx (hb hby d_ma1_46) ?_
  show Go _ _ _ _ T117 (mkF m 47 #[.val (.ref r), .val (.ref u), .val (.int (1 : Int32))] [(.int (2 : Int32)), (.int (1 : Int32))]) _ _ _
  refine Go.icmpYes X117 hx (hb hby d_ma1_47) (XT.ii_le_t (by decide)) (pc' := 63) (by decide) (by decide) ?_
  show Go _ _ _ _ T117 (mkF m 63 #[.val (.ref r), .val (.ref u), .val (.int (1 : Int32))] []) _ _ _
  refine Go.iconst X117 hx (hb hby d_ma1_63) ?_
  show Go _ _ _ _ T117 (mkF m 64 #[.val (.ref r), .val (.ref u), .val (.int (1 : Int32))] [(.int (1 : Int32))]) _ _ _
  refine Go.retZ X117 hx hlk hret (by decide) (hb hby d_ma1_64) (by decide) (by decide) ?_
  rw [e117]
  exact ⟨rfl, N117, rfl⟩
def Q_ma2 (Z : State) (r : Addr) (u : Addr) (kr : ClassId) (g : Nat → Int32) (ku : ClassId) (uf : Nat → Int32) (h0 : Heap) (n0 : Nat) (v : Option Value) (h : Heap) (L : List Loc) : Prop := v = some (.int (1 : Int32)) ∧ Fr n0 L ∧ h = h0
theorem ef_ma2 (m : MethodId) (x0 : Addr) (x1 : Addr) (x2 : Int32) : entryFrame m #[(.ref x0), (.ref x1), (.int x2)] 3 = mkF m 0 #[.val (.ref x0), .val (.ref x1), .val (.int x2)] [] := by first | (simp [entryFrame, mkF, argsToLocals, Value.category]; done) | rfl
set_option maxRecDepth 65536 in
set_option maxHeartbeats 40000000 in
theorem rm_ma2 (l : Launch) (Z : State) (a0 : Array Value) (hw : ∀ d ∈ tables_1, d.before a0 Z = true) (r : Addr) (u : Addr) (kr : ClassId) (g : Nat → Int32) (ku : ClassId) (uf : Nat → Int32) (h0 : Heap) (n0 : Nat) (Z0 : n0 ≤ h0.size) (f0 : Af Z h0 r kr .byte 8 (fun i => Value.int (g i))) (f1 : Af Z h0 u ku .int 3 (fun i => Value.int (uf i))) (f2 : unitV g 0 = uf 0) (f3 : unitV g 1 = uf 1) :
    Met l Z (⟨"com/example/farcall/farcall/XdrWriterToByteArrayPinLaw", "matches", "([B[II)Z"⟩ : MethodName) method_4_code 3 (Option.some Jvm.ClassFile.FieldType.boolean) [] ({ frames := 1, cells := 0, slots := 0, locals := 14 } : Room) #[(.ref r), (.ref u), (.int (2 : Int32))] h0 (Q_ma2 Z r u kr g ku uf h0 n0) := by
  refine Met.of (plainFor_of_name pn_ma2) ?_
  intro p e s m below meth c s₁ X0 hx hby hml hZ hown hnm e0 hret hlk
  refine Go.cast (ef_ma2 m r u ((2 : Int32))) ?_
  show Go _ _ _ _ s₁ (mkF m 0 #[.val (.ref r), .val (.ref u), .val (.int (2 : Int32))] []) _ _ _
  have N0 := Fr.nil n0
  refine Go.aloadN X0 hx (hb hby d_ma2_0) rfl rfl ?_
  show Go _ _ _ _ s₁ (mkF m 1 #[.val (.ref r), .val (.ref u), .val (.int (2 : Int32))] [(.ref r)]) _ _ _
  refine Go.alen X0 hx hZ e0 f0 (hb hby d_ma2_1) ?_
  show Go _ _ _ _ s₁ (mkF m 2 #[.val (.ref r), .val (.ref u), .val (.int (2 : Int32))] [(.int (8 : Int32))]) _ _ _
  refine Go.iconst X0 hx (hb hby d_ma2_2) ?_
  show Go _ _ _ _ s₁ (mkF m 3 #[.val (.ref r), .val (.ref u), .val (.int (2 : Int32))] [(.int (4 : Int32)), (.int (8 : Int32))]) _ _ _
  refine Go.iloadN X0 hx (hb hby d_ma2_3) rfl ?_
  show Go _ _ _ _ s₁ (mkF m 4 #[.val (.ref r), .val (.ref u), .val (.int (2 : Int32))] [(.int (2 : Int32)), (.int (4 : Int32)), (.int (8 : Int32))]) _ _ _
  refine Go.imul X0 hx (hb hby d_ma2_4) ?_
  show Go _ _ _ _ s₁ (mkF m 5 #[.val (.ref r), .val (.ref u), .val (.int (2 : Int32))] [(.int (8 : Int32)), (.int (8 : Int32))]) _ _ _
  refine Go.icmpYes X0 hx (hb hby d_ma2_5) (XT.ii_eq_t (by decide)) (pc' := 10) (by decide) (by decide) ?_
  show Go _ _ _ _ s₁ (mkF m 10 #[.val (.ref r), .val (.ref u), .val (.int (2 : Int32))] []) _ _ _
  refine Go.iloadN X0 hx (hb hby d_ma2_10) rfl ?_
  show Go _ _ _ _ s₁ (mkF m 11 #[.val (.ref r), .val (.ref u), .val (.int (2 : Int32))] [(.int (2 : Int32))]) _ _ _
  refine Go.ifNo X0 hx (hb hby d_ma2_11) (XT.i0_le_f (by decide)) ?_
  show Go _ _ _ _ s₁ (mkF m 14 #[.val (.ref r), .val (.ref u), .val (.int (2 : Int32))] []) _ _ _
  refine Go.aloadN X0 hx (hb hby d_ma2_14) rfl rfl ?_
  show Go _ _ _ _ s₁ (mkF m 15 #[.val (.ref r), .val (.ref u), .val (.int (2 : Int32))] [(.ref r)]) _ _ _
  refine Go.iconst X0 hx (hb hby d_ma2_15) ?_
  show Go _ _ _ _ s₁ (mkF m 16 #[.val (.ref r), .val (.ref u), .val (.int (2 : Int32))] [(.int (0 : Int32)), (.ref r)]) _ _ _
  refine Go.callS (W := 0) (argsL := [(.ref r), (.int (0 : Int32))]) (rest := []) X0 hx hZ hown (w55 hw) (w56 hw) (w53 hw) (w57 hw) (by decide) (rm_un0 l Z a0 hw r kr g 8 h0 n0 Z0 f0 (by decide)) e0 (lenOf pd_4 rfl) (hb hby d_ma2_16) (by rw [hml]; rfl) rfl (Nat.le_of_eq rfl) (by decide) (by decide) (by decide) (by decide) ?_
  intro v118 T118 L118 X118 q118
  obtain ⟨rfl, M118, e118⟩ := q118
  have N118 := Fr.app N0 M118
  show Go _ _ _ _ T118 (mkF m 19 #[.val (.ref r), .val (.ref u), .val (.int (2 : Int32))] [(.int (unitV g 0))]) _ _ _
  refine Go.aloadN X118 hx (hb hby d_ma2_19) rfl rfl ?_
  show Go _ _ _ _ T118 (mkF m 20 #[.val (.ref r), .val (.ref u), .val (.int (2 : Int32))] [(.ref u), (.int (unitV g 0))]) _ _ _
  refine Go.iconst X118 hx (hb hby d_ma2_20) ?_
  show Go _ _ _ _ T118 (mkF m 21 #[.val (.ref r), .val (.ref u), .val (.int (2 : Int32))] [(.int (0 : Int32)), (.ref u), (.int (unitV g 0))]) _ _ _
  refine Go.iaload X118 hx hZ e118 f1 (by decide) (by decide) (hb hby d_ma2_21) ?_
  show Go _ _ _ _ T118 (mkF m 22 #[.val (.ref r), .val (.ref u), .val (.int (2 : Int32))] [(.int (uf 0)), (.int (unitV g 0))]) _ _ _
  refine Go.icmpYes X118 hx (hb hby d_ma2_22) (XT.ii_eq_t f2) (pc' := 27) (by decide) (by decide) ?_
  show Go _ _ _ _ T118 (mkF m 27 #[.val (.ref r), .val (.ref u), .val (.int (2 : Int32))] []) _ _ _
  refine Go.iloadN X118 hx (hb hby d_ma2_27) rfl ?_
  show Go _ _ _ _ T118 (mkF m 28 #[.val (.ref r), .val (.ref u), .val (.int (2 : Int32))] [(.int (2 : Int32))]) _ _ _
  refine Go.iconst X118 hx (hb hby d_ma2_28) ?_
  show Go _ _ _ _ T118 (mkF m 29 #[.val (.ref r), .val (.ref u), .val (.int (2 : Int32))] [(.int (1 : Int32)), (.int (2 : Int32))]) _ _ _
  refine Go.icmpNo X118 hx (hb hby d_ma2_29) (XT.ii_le_f (by decide)) ?_
  show Go _ _ _ _ T118 (mkF m 32 #[.val (.ref r), .val (.ref u), .val (.int (2 : Int32))] []) _ _ _
  refine Go.aloadN X118 hx (hb hby d_ma2_32) rfl rfl ?_
  show Go _ _ _ _ T118 (mkF m 33 #[.val (.ref r), .val (.ref u), .val (.int (2 : Int32))] [(.ref r)]) _ _ _
  refine Go.iconst X118 hx (hb hby d_ma2_33) ?_
  show Go _ _ _ _ T118 (mkF m 34 #[.val (.ref r), .val (.ref u), .val (.int (2 : Int32))] [(.int (1 : Int32)), (.ref r)]) _ _ _
  refine Go.callS (W := 0) (argsL := [(.ref r), (.int (1 : Int32))]) (rest := []) X118 hx hZ hown (w55 hw) (w56 hw) (w53 hw) (w57 hw) (by decide) (rm_un1 l Z a0 hw r kr g 8 h0 n0 Z0 f0 (by decide)) e118 (lenOf pd_4 rfl) (hb hby d_ma2_34) (by rw [hml]; rfl) rfl (Nat.le_of_eq rfl) (by decide) (by decide) (by decide) (by decide) ?_
  intro v119 T119 L119 X119 q119
  obtain ⟨rfl, M119, e119⟩ := q119
  have N119 := Fr.app N118 M119
  show Go _ _ _ _ T119 (mkF m 37 #[.val (.ref r), .val (.ref u), .val (.int (2 : Int32))] [(.int (unitV g 1))]) _ _ _
  refine Go.aloadN X119 hx (hb hby d_ma2_37) rfl rfl ?_
  show Go _ _ _ _ T119 (mkF m 38 #[.val (.ref r), .val (.ref u), .val (.int (2 : Int32))] [(.ref u), (.int (unitV g 1))]) _ _ _
  refine Go.iconst X119 hx (hb hby d_ma2_38) ?_
  show Go _ _ _ _ T119 (mkF m 39 #[.val (.ref r), .val (.ref u), .val (.int (2 : Int32))] [(.int (1 : Int32)), (.ref u), (.int (unitV g 1))]) _ _ _
  refine Go.iaload X119 hx hZ e119 f1 (by decide) (by decide) (hb hby d_ma2_39) ?_
  show Go _ _ _ _ T119 (mkF m 40 #[.val (.ref r), .val (.ref u), .val (.int (2 : Int32))] [(.int (uf 1)), (.int (unitV g 1))]) _ _ _
  refine Go.icmpYes X119 hx (hb hby d_ma2_40) (XT.ii_eq_t f3) (pc' := 45) (by decide) (by decide) ?_
  show Go _ _ _ _ T119 (mkF m 45 #[.val (.ref r), .val (.ref u), .val (.int (2 : Int32))] []) _ _ _
  refine Go.iloadN X119 hx (hb hby d_ma2_45) rfl ?_
  show Go _ _ _ _ T119 (mkF m 46 #[.val (.ref r), .val (.ref u), .val (.int (2 : Int32))] [(.int (2 : Int32))]) _ _ _
  refine Go.iconst X119 hx (hb hby d_ma2_46) ?_
  show Go _ _ _ _ T119 (mkF m 47 #[.val (.ref r), .val (.ref u), .val (.int (2 : Int32))] [(.int (2 : Int32)), (.int (2 : Int32))]) _ _ _
  refine Go.icmpYes X119 hx (hb hby d_ma2_47) (XT.ii_le_t (by decide)) (pc' := 63) (by decide) (by decide) ?_
  show Go _ _ _ _ T119 (mkF m 63 #[.val (.ref r), .val (.ref u), .val (.int (2 : Int32))] []) _ _ _
  refine Go.iconst X119 hx (hb hby d_ma2_63) ?_
  show Go _ _ _ _ T119 (mkF m 64 #[.val (.ref r), .val (.ref u), .val (.int (2 : Int32))] [(.int (1 : Int32))]) _ _ _
  refine Go.retZ X119 hx hlk hret (by decide) (hb hby d_ma2_64) (by decide) (by decide) ?_
  rw [e119]
  exact ⟨rfl, N119, rfl⟩
def Q_ma3 (Z : State) (r : Addr) (u : Addr) (kr : ClassId) (g : Nat → Int32) (ku : ClassId) (uf : Nat → Int32) (h0 : Heap) (n0 : Nat) (v : Option Value) (h : Heap) (L : List Loc) : Prop := v = some (.int (1 : Int32)) ∧ Fr n0 L ∧ h = h0
theorem ef_ma3 (m : MethodId) (x0 : Addr) (x1 : Addr) (x2 : Int32) : entryFrame m #[(.ref x0), (.ref x1), (.int x2)] 3 = mkF m 0 #[.val (.ref x0), .val (.ref x1), .val (.int x2)] [] := by first | (simp [entryFrame, mkF, argsToLocals, Value.category]; done) | rfl
set_option maxRecDepth 65536 in
set_option maxHeartbeats 40000000 in
theorem rm_ma3 (l : Launch) (Z : State) (a0 : Array Value) (hw : ∀ d ∈ tables_1, d.before a0 Z = true) (r : Addr) (u : Addr) (kr : ClassId) (g : Nat → Int32) (ku : ClassId) (uf : Nat → Int32) (h0 : Heap) (n0 : Nat) (Z0 : n0 ≤ h0.size) (f0 : Af Z h0 r kr .byte 12 (fun i => Value.int (g i))) (f1 : Af Z h0 u ku .int 3 (fun i => Value.int (uf i))) (f2 : unitV g 0 = uf 0) (f3 : unitV g 1 = uf 1) (f4 : unitV g 2 = uf 2) :
    Met l Z (⟨"com/example/farcall/farcall/XdrWriterToByteArrayPinLaw", "matches", "([B[II)Z"⟩ : MethodName) method_4_code 3 (Option.some Jvm.ClassFile.FieldType.boolean) [] ({ frames := 1, cells := 0, slots := 0, locals := 14 } : Room) #[(.ref r), (.ref u), (.int (3 : Int32))] h0 (Q_ma3 Z r u kr g ku uf h0 n0) := by
  refine Met.of (plainFor_of_name pn_ma3) ?_
  intro p e s m below meth c s₁ X0 hx hby hml hZ hown hnm e0 hret hlk
  refine Go.cast (ef_ma3 m r u ((3 : Int32))) ?_
  show Go _ _ _ _ s₁ (mkF m 0 #[.val (.ref r), .val (.ref u), .val (.int (3 : Int32))] []) _ _ _
  have N0 := Fr.nil n0
  refine Go.aloadN X0 hx (hb hby d_ma3_0) rfl rfl ?_
  show Go _ _ _ _ s₁ (mkF m 1 #[.val (.ref r), .val (.ref u), .val (.int (3 : Int32))] [(.ref r)]) _ _ _
  refine Go.alen X0 hx hZ e0 f0 (hb hby d_ma3_1) ?_
  show Go _ _ _ _ s₁ (mkF m 2 #[.val (.ref r), .val (.ref u), .val (.int (3 : Int32))] [(.int (12 : Int32))]) _ _ _
  refine Go.iconst X0 hx (hb hby d_ma3_2) ?_
  show Go _ _ _ _ s₁ (mkF m 3 #[.val (.ref r), .val (.ref u), .val (.int (3 : Int32))] [(.int (4 : Int32)), (.int (12 : Int32))]) _ _ _
  refine Go.iloadN X0 hx (hb hby d_ma3_3) rfl ?_
  show Go _ _ _ _ s₁ (mkF m 4 #[.val (.ref r), .val (.ref u), .val (.int (3 : Int32))] [(.int (3 : Int32)), (.int (4 : Int32)), (.int (12 : Int32))]) _ _ _
  refine Go.imul X0 hx (hb hby d_ma3_4) ?_
  show Go _ _ _ _ s₁ (mkF m 5 #[.val (.ref r), .val (.ref u), .val (.int (3 : Int32))] [(.int (12 : Int32)), (.int (12 : Int32))]) _ _ _
  refine Go.icmpYes X0 hx (hb hby d_ma3_5) (XT.ii_eq_t (by decide)) (pc' := 10) (by decide) (by decide) ?_
  show Go _ _ _ _ s₁ (mkF m 10 #[.val (.ref r), .val (.ref u), .val (.int (3 : Int32))] []) _ _ _
  refine Go.iloadN X0 hx (hb hby d_ma3_10) rfl ?_
  show Go _ _ _ _ s₁ (mkF m 11 #[.val (.ref r), .val (.ref u), .val (.int (3 : Int32))] [(.int (3 : Int32))]) _ _ _
  refine Go.ifNo X0 hx (hb hby d_ma3_11) (XT.i0_le_f (by decide)) ?_
  show Go _ _ _ _ s₁ (mkF m 14 #[.val (.ref r), .val (.ref u), .val (.int (3 : Int32))] []) _ _ _
  refine Go.aloadN X0 hx (hb hby d_ma3_14) rfl rfl ?_
  show Go _ _ _ _ s₁ (mkF m 15 #[.val (.ref r), .val (.ref u), .val (.int (3 : Int32))] [(.ref r)]) _ _ _
  refine Go.iconst X0 hx (hb hby d_ma3_15) ?_
  show Go _ _ _ _ s₁ (mkF m 16 #[.val (.ref r), .val (.ref u), .val (.int (3 : Int32))] [(.int (0 : Int32)), (.ref r)]) _ _ _
  refine Go.callS (W := 0) (argsL := [(.ref r), (.int (0 : Int32))]) (rest := []) X0 hx hZ hown (w55 hw) (w56 hw) (w53 hw) (w57 hw) (by decide) (rm_un0 l Z a0 hw r kr g 12 h0 n0 Z0 f0 (by decide)) e0 (lenOf pd_4 rfl) (hb hby d_ma3_16) (by rw [hml]; rfl) rfl (Nat.le_of_eq rfl) (by decide) (by decide) (by decide) (by decide) ?_
  intro v120 T120 L120 X120 q120
  obtain ⟨rfl, M120, e120⟩ := q120
  have N120 := Fr.app N0 M120
  show Go _ _ _ _ T120 (mkF m 19 #[.val (.ref r), .val (.ref u), .val (.int (3 : Int32))] [(.int (unitV g 0))]) _ _ _
  refine Go.aloadN X120 hx (hb hby d_ma3_19) rfl rfl ?_
  show Go _ _ _ _ T120 (mkF m 20 #[.val (.ref r), .val (.ref u), .val (.int (3 : Int32))] [(.ref u), (.int (unitV g 0))]) _ _ _
  refine Go.iconst X120 hx (hb hby d_ma3_20) ?_
  show Go _ _ _ _ T120 (mkF m 21 #[.val (.ref r), .val (.ref u), .val (.int (3 : Int32))] [(.int (0 : Int32)), (.ref u), (.int (unitV g 0))]) _ _ _
  refine Go.iaload X120 hx hZ e120 f1 (by decide) (by decide) (hb hby d_ma3_21) ?_
  show Go _ _ _ _ T120 (mkF m 22 #[.val (.ref r), .val (.ref u), .val (.int (3 : Int32))] [(.int (uf 0)), (.int (unitV g 0))]) _ _ _
  refine Go.icmpYes X120 hx (hb hby d_ma3_22) (XT.ii_eq_t f2) (pc' := 27) (by decide) (by decide) ?_
  show Go _ _ _ _ T120 (mkF m 27 #[.val (.ref r), .val (.ref u), .val (.int (3 : Int32))] []) _ _ _
  refine Go.iloadN X120 hx (hb hby d_ma3_27) rfl ?_
  show Go _ _ _ _ T120 (mkF m 28 #[.val (.ref r), .val (.ref u), .val (.int (3 : Int32))] [(.int (3 : Int32))]) _ _ _
  refine Go.iconst X120 hx (hb hby d_ma3_28) ?_
  show Go _ _ _ _ T120 (mkF m 29 #[.val (.ref r), .val (.ref u), .val (.int (3 : Int32))] [(.int (1 : Int32)), (.int (3 : Int32))]) _ _ _
  refine Go.icmpNo X120 hx (hb hby d_ma3_29) (XT.ii_le_f (by decide)) ?_
  show Go _ _ _ _ T120 (mkF m 32 #[.val (.ref r), .val (.ref u), .val (.int (3 : Int32))] []) _ _ _
  refine Go.aloadN X120 hx (hb hby d_ma3_32) rfl rfl ?_
  show Go _ _ _ _ T120 (mkF m 33 #[.val (.ref r), .val (.ref u), .val (.int (3 : Int32))] [(.ref r)]) _ _ _
  refine Go.iconst X120 hx (hb hby d_ma3_33) ?_
  show Go _ _ _ _ T120 (mkF m 34 #[.val (.ref r), .val (.ref u), .val (.int (3 : Int32))] [(.int (1 : Int32)), (.ref r)]) _ _ _
  refine Go.callS (W := 0) (argsL := [(.ref r), (.int (1 : Int32))]) (rest := []) X120 hx hZ hown (w55 hw) (w56 hw) (w53 hw) (w57 hw) (by decide) (rm_un1 l Z a0 hw r kr g 12 h0 n0 Z0 f0 (by decide)) e120 (lenOf pd_4 rfl) (hb hby d_ma3_34) (by rw [hml]; rfl) rfl (Nat.le_of_eq rfl) (by decide) (by decide) (by decide) (by decide) ?_
  intro v121 T121 L121 X121 q121
  obtain ⟨rfl, M121, e121⟩ := q121
  have N121 := Fr.app N120 M121
  show Go _ _ _ _ T121 (mkF m 37 #[.val (.ref r), .val (.ref u), .val (.int (3 : Int32))] [(.int (unitV g 1))]) _ _ _
  refine Go.aloadN X121 hx (hb hby d_ma3_37) rfl rfl ?_
  show Go _ _ _ _ T121 (mkF m 38 #[.val (.ref r), .val (.ref u), .val (.int (3 : Int32))] [(.ref u), (.int (unitV g 1))]) _ _ _
  refine Go.iconst X121 hx (hb hby d_ma3_38) ?_
  show Go _ _ _ _ T121 (mkF m 39 #[.val (.ref r), .val (.ref u), .val (.int (3 : Int32))] [(.int (1 : Int32)), (.ref u), (.int (unitV g 1))]) _ _ _
  refine Go.iaload X121 hx hZ e121 f1 (by decide) (by decide) (hb hby d_ma3_39) ?_
  show Go _ _ _ _ T121 (mkF m 40 #[.val (.ref r), .val (.ref u), .val (.int (3 : Int32))] [(.int (uf 1)), (.int (unitV g 1))]) _ _ _
  refine Go.icmpYes X121 hx (hb hby d_ma3_40) (XT.ii_eq_t f3) (pc' := 45) (by decide) (by decide) ?_
  show Go _ _ _ _ T121 (mkF m 45 #[.val (.ref r), .val (.ref u), .val (.int (3 : Int32))] []) _ _ _
  refine Go.iloadN X121 hx (hb hby d_ma3_45) rfl ?_
  show Go _ _ _ _ T121 (mkF m 46 #[.val (.ref r), .val (.ref u), .val (.int (3 : Int32))] [(.int (3 : Int32))]) _ _ _
  refine Go.iconst X121 hx (hb hby d_ma3_46) ?_
  show Go _ _ _ _ T121 (mkF m 47 #[.val (.ref r), .val (.ref u), .val (.int (3 : Int32))] [(.int (2 : Int32)), (.int (3 : Int32))]) _ _ _
  refine Go.icmpNo X121 hx (hb hby d_ma3_47) (XT.ii_le_f (by decide)) ?_
  show Go _ _ _ _ T121 (mkF m 50 #[.val (.ref r), .val (.ref u), .val (.int (3 : Int32))] []) _ _ _
  refine Go.aloadN X121 hx (hb hby d_ma3_50) rfl rfl ?_
  show Go _ _ _ _ T121 (mkF m 51 #[.val (.ref r), .val (.ref u), .val (.int (3 : Int32))] [(.ref r)]) _ _ _
  refine Go.iconst X121 hx (hb hby d_ma3_51) ?_
  show Go _ _ _ _ T121 (mkF m 52 #[.val (.ref r), .val (.ref u), .val (.int (3 : Int32))] [(.int (2 : Int32)), (.ref r)]) _ _ _
  refine Go.callS (W := 0) (argsL := [(.ref r), (.int (2 : Int32))]) (rest := []) X121 hx hZ hown (w55 hw) (w56 hw) (w53 hw) (w57 hw) (by decide) (rm_un2 l Z a0 hw r kr g 12 h0 n0 Z0 f0 (by decide)) e121 (lenOf pd_4 rfl) (hb hby d_ma3_52) (by rw [hml]; rfl) rfl (Nat.le_of_eq rfl) (by decide) (by decide) (by decide) (by decide) ?_
  intro v122 T122 L122 X122 q122
  obtain ⟨rfl, M122, e122⟩ := q122
  have N122 := Fr.app N121 M122
  show Go _ _ _ _ T122 (mkF m 55 #[.val (.ref r), .val (.ref u), .val (.int (3 : Int32))] [(.int (unitV g 2))]) _ _ _
  refine Go.aloadN X122 hx (hb hby d_ma3_55) rfl rfl ?_
  show Go _ _ _ _ T122 (mkF m 56 #[.val (.ref r), .val (.ref u), .val (.int (3 : Int32))] [(.ref u), (.int (unitV g 2))]) _ _ _
  refine Go.iconst X122 hx (hb hby d_ma3_56) ?_
  show Go _ _ _ _ T122 (mkF m 57 #[.val (.ref r), .val (.ref u), .val (.int (3 : Int32))] [(.int (2 : Int32)), (.ref u), (.int (unitV g 2))]) _ _ _
  refine Go.iaload X122 hx hZ e122 f1 (by decide) (by decide) (hb hby d_ma3_57) ?_
  show Go _ _ _ _ T122 (mkF m 58 #[.val (.ref r), .val (.ref u), .val (.int (3 : Int32))] [(.int (uf 2)), (.int (unitV g 2))]) _ _ _
  refine Go.icmpYes X122 hx (hb hby d_ma3_58) (XT.ii_eq_t f4) (pc' := 63) (by decide) (by decide) ?_
  show Go _ _ _ _ T122 (mkF m 63 #[.val (.ref r), .val (.ref u), .val (.int (3 : Int32))] []) _ _ _
  refine Go.iconst X122 hx (hb hby d_ma3_63) ?_
  show Go _ _ _ _ T122 (mkF m 64 #[.val (.ref r), .val (.ref u), .val (.int (3 : Int32))] [(.int (1 : Int32))]) _ _ _
  refine Go.retZ X122 hx hlk hret (by decide) (hb hby d_ma3_64) (by decide) (by decide) ?_
  rw [e122]
  exact ⟨rfl, N122, rfl⟩
def Q_law (Z : State) (p0 : Int32) (p1 : Int64) (p2 : Int32) (h0 : Heap) (n0 : Nat) (v : Option Value) (h : Heap) (L : List Loc) : Prop := v = some (.int (1 : Int32)) ∧ Fr n0 L
theorem ef_law (m : MethodId) (x0 : Int32) (x1 : Int64) (x2 : Int32) : entryFrame m #[(.int x0), (.long x1), (.int x2)] maxLocals = mkF m 0 #[.val (.int x0), .val (.long x1), .second, .val (.int x2), .unset, .unset, .unset, .unset, .unset, .unset, .unset, .unset] [] := by first | (simp [entryFrame, mkF, argsToLocals, Value.category, maxLocals]; done) | rfl
set_option maxRecDepth 65536 in
set_option maxHeartbeats 40000000 in
theorem rm_law (l : Launch) (Z : State) (a0 : Array Value) (hw : ∀ d ∈ tables_1, d.before a0 Z = true) (ws : List Jvm.Cond) (p0 : Int32) (p1 : Int64) (p2 : Int32) (h0 : Heap) (n0 : Nat) (Z0 : n0 ≤ h0.size)  :
    Met l Z x code maxLocals ret ws room_1 #[(.int p0), (.long p1), (.int p2)] h0 (Q_law Z p0 p1 p2 h0 n0) := by
  refine Met.of (plainFor_of_name pn_law) ?_
  intro p e s m below meth c s₁ X0 hx hby hml hZ hown hnm e0 hret hlk
  refine Go.cast (ef_law m p0 p1 p2) ?_
  show Go _ _ _ _ s₁ (mkF m 0 #[.val (.int p0), .val (.long p1), .second, .val (.int p2), .unset, .unset, .unset, .unset, .unset, .unset, .unset, .unset] []) _ _ _
  have N0 := Fr.nil n0
  refine Go.iloadN X0 hx (hb hby at_0) rfl ?_
  show Go _ _ _ _ s₁ (mkF m 1 #[.val (.int p0), .val (.long p1), .second, .val (.int p2), .unset, .unset, .unset, .unset, .unset, .unset, .unset, .unset] [(.int p2)]) _ _ _
  refine Go.iconst X0 hx (hb hby at_1) ?_
  show Go _ _ _ _ s₁ (mkF m 2 #[.val (.int p0), .val (.long p1), .second, .val (.int p2), .unset, .unset, .unset, .unset, .unset, .unset, .unset, .unset] [(.int (1 : Int32)), (.int p2)]) _ _ _
  refine Go.iand X0 hx (hb hby at_2) ?_
  show Go _ _ _ _ s₁ (mkF m 3 #[.val (.int p0), .val (.long p1), .second, .val (.int p2), .unset, .unset, .unset, .unset, .unset, .unset, .unset, .unset] [(.int (p2 &&& (1 : Int32)))]) _ _ _
  rcases Decidable.em ((p2 &&& (1 : Int32)) = (0 : Int32)) with c123 | c123
  · refine Go.ifYes X0 hx (hb hby at_3) (XT.i0_eq_t c123) (pc' := 10) (by decide) (by decide) ?_
    show Go _ _ _ _ s₁ (mkF m 10 #[.val (.int p0), .val (.long p1), .second, .val (.int p2), .unset, .unset, .unset, .unset, .unset, .unset, .unset, .unset] []) _ _ _
    refine Go.iconst X0 hx (hb hby at_10) ?_
    show Go _ _ _ _ s₁ (mkF m 11 #[.val (.int p0), .val (.long p1), .second, .val (.int p2), .unset, .unset, .unset, .unset, .unset, .unset, .unset, .unset] [(.int (0 : Int32))]) _ _ _
    refine Go.istore X0 hx (hb hby at_11) (l' := #[.val (.int p0), .val (.long p1), .second, .val (.int p2), .val (.int (0 : Int32)), .unset, .unset, .unset, .unset, .unset, .unset, .unset]) rfl ?_
    show Go _ _ _ _ s₁ (mkF m 13 #[.val (.int p0), .val (.long p1), .second, .val (.int p2), .val (.int (0 : Int32)), .unset, .unset, .unset, .unset, .unset, .unset, .unset] []) _ _ _
    refine Go.iloadN X0 hx (hb hby at_13) rfl ?_
    show Go _ _ _ _ s₁ (mkF m 14 #[.val (.int p0), .val (.long p1), .second, .val (.int p2), .val (.int (0 : Int32)), .unset, .unset, .unset, .unset, .unset, .unset, .unset] [(.int p2)]) _ _ _
    refine Go.iconst X0 hx (hb hby at_14) ?_
    show Go _ _ _ _ s₁ (mkF m 15 #[.val (.int p0), .val (.long p1), .second, .val (.int p2), .val (.int (0 : Int32)), .unset, .unset, .unset, .unset, .unset, .unset, .unset] [(.int (2 : Int32)), (.int p2)]) _ _ _
    refine Go.iand X0 hx (hb hby at_15) ?_
    show Go _ _ _ _ s₁ (mkF m 16 #[.val (.int p0), .val (.long p1), .second, .val (.int p2), .val (.int (0 : Int32)), .unset, .unset, .unset, .unset, .unset, .unset, .unset] [(.int (p2 &&& (2 : Int32)))]) _ _ _
    rcases Decidable.em ((p2 &&& (2 : Int32)) = (0 : Int32)) with c124 | c124
    · refine Go.ifYes X0 hx (hb hby at_16) (XT.i0_eq_t c124) (pc' := 23) (by decide) (by decide) ?_
      show Go _ _ _ _ s₁ (mkF m 23 #[.val (.int p0), .val (.long p1), .second, .val (.int p2), .val (.int (0 : Int32)), .unset, .unset, .unset, .unset, .unset, .unset, .unset] []) _ _ _
      refine Go.iconst X0 hx (hb hby at_23) ?_
      show Go _ _ _ _ s₁ (mkF m 24 #[.val (.int p0), .val (.long p1), .second, .val (.int p2), .val (.int (0 : Int32)), .unset, .unset, .unset, .unset, .unset, .unset, .unset] [(.int (0 : Int32))]) _ _ _
      refine Go.istore X0 hx (hb hby at_24) (l' := #[.val (.int p0), .val (.long p1), .second, .val (.int p2), .val (.int (0 : Int32)), .val (.int (0 : Int32)), .unset, .unset, .unset, .unset, .unset, .unset]) rfl ?_
      show Go _ _ _ _ s₁ (mkF m 26 #[.val (.int p0), .val (.long p1), .second, .val (.int p2), .val (.int (0 : Int32)), .val (.int (0 : Int32)), .unset, .unset, .unset, .unset, .unset, .unset] []) _ _ _
      refine Go.iloadN X0 hx (hb hby at_26) rfl ?_
      show Go _ _ _ _ s₁ (mkF m 27 #[.val (.int p0), .val (.long p1), .second, .val (.int p2), .val (.int (0 : Int32)), .val (.int (0 : Int32)), .unset, .unset, .unset, .unset, .unset, .unset] [(.int p2)]) _ _ _
      refine Go.iconst X0 hx (hb hby at_27) ?_
      show Go _ _ _ _ s₁ (mkF m 28 #[.val (.int p0), .val (.long p1), .second, .val (.int p2), .val (.int (0 : Int32)), .val (.int (0 : Int32)), .unset, .unset, .unset, .unset, .unset, .unset] [(.int (4 : Int32)), (.int p2)]) _ _ _
      refine Go.iand X0 hx (hb hby at_28) ?_
      show Go _ _ _ _ s₁ (mkF m 29 #[.val (.int p0), .val (.long p1), .second, .val (.int p2), .val (.int (0 : Int32)), .val (.int (0 : Int32)), .unset, .unset, .unset, .unset, .unset, .unset] [(.int (p2 &&& (4 : Int32)))]) _ _ _
      rcases Decidable.em ((p2 &&& (4 : Int32)) = (0 : Int32)) with c125 | c125
      · refine Go.ifYes X0 hx (hb hby at_29) (XT.i0_eq_t c125) (pc' := 36) (by decide) (by decide) ?_
        show Go _ _ _ _ s₁ (mkF m 36 #[.val (.int p0), .val (.long p1), .second, .val (.int p2), .val (.int (0 : Int32)), .val (.int (0 : Int32)), .unset, .unset, .unset, .unset, .unset, .unset] []) _ _ _
        refine Go.iconst X0 hx (hb hby at_36) ?_
        show Go _ _ _ _ s₁ (mkF m 37 #[.val (.int p0), .val (.long p1), .second, .val (.int p2), .val (.int (0 : Int32)), .val (.int (0 : Int32)), .unset, .unset, .unset, .unset, .unset, .unset] [(.int (0 : Int32))]) _ _ _
        refine Go.istore X0 hx (hb hby at_37) (l' := #[.val (.int p0), .val (.long p1), .second, .val (.int p2), .val (.int (0 : Int32)), .val (.int (0 : Int32)), .val (.int (0 : Int32)), .unset, .unset, .unset, .unset, .unset]) rfl ?_
        show Go _ _ _ _ s₁ (mkF m 39 #[.val (.int p0), .val (.long p1), .second, .val (.int p2), .val (.int (0 : Int32)), .val (.int (0 : Int32)), .val (.int (0 : Int32)), .unset, .unset, .unset, .unset, .unset] []) _ _ _
        refine Go.iconst X0 hx (hb hby at_39) ?_
        show Go _ _ _ _ s₁ (mkF m 40 #[.val (.int p0), .val (.long p1), .second, .val (.int p2), .val (.int (0 : Int32)), .val (.int (0 : Int32)), .val (.int (0 : Int32)), .unset, .unset, .unset, .unset, .unset] [(.int (3 : Int32))]) _ _ _
        refine Go.newarray (aty := .int) (cap := 3) X0 hx hZ (w0 hw) e0 (hb hby at_40) (by decide) (by decide) (by decide) (by decide) (by decide) ?_
        intro T126 h126 a126 k126 b126 X126 e126 E126 A126
        have g_a126 : n0 ≤ a126 := by rw [b126]; exact Z0
        have y_a126 : h0.size ≤ a126 := by rw [b126]; exact (Nat.le_refl _)
        have Z126 : n0 ≤ h126.size := Nat.le_trans Z0 E126.1
        have B126 : h0.size ≤ h126.size := Nat.le_trans (Nat.le_refl _) E126.1
        show Go _ _ _ _ T126 (mkF m 42 #[.val (.int p0), .val (.long p1), .second, .val (.int p2), .val (.int (0 : Int32)), .val (.int (0 : Int32)), .val (.int (0 : Int32)), .unset, .unset, .unset, .unset, .unset] [(.ref a126)]) _ _ _
        refine Go.astore X126 hx (hb hby at_42) rfl (l' := #[.val (.int p0), .val (.long p1), .second, .val (.int p2), .val (.int (0 : Int32)), .val (.int (0 : Int32)), .val (.int (0 : Int32)), .val (.ref a126), .unset, .unset, .unset, .unset]) rfl ?_
        show Go _ _ _ _ T126 (mkF m 44 #[.val (.int p0), .val (.long p1), .second, .val (.int p2), .val (.int (0 : Int32)), .val (.int (0 : Int32)), .val (.int (0 : Int32)), .val (.ref a126), .unset, .unset, .unset, .unset] []) _ _ _
        refine Go.iconst X126 hx (hb hby at_44) ?_
        show Go _ _ _ _ T126 (mkF m 45 #[.val (.int p0), .val (.long p1), .second, .val (.int p2), .val (.int (0 : Int32)), .val (.int (0 : Int32)), .val (.int (0 : Int32)), .val (.ref a126), .unset, .unset, .unset, .unset] [(.int (0 : Int32))]) _ _ _
        refine Go.istore X126 hx (hb hby at_45) (l' := #[.val (.int p0), .val (.long p1), .second, .val (.int p2), .val (.int (0 : Int32)), .val (.int (0 : Int32)), .val (.int (0 : Int32)), .val (.ref a126), .val (.int (0 : Int32)), .unset, .unset, .unset]) rfl ?_
        show Go _ _ _ _ T126 (mkF m 47 #[.val (.int p0), .val (.long p1), .second, .val (.int p2), .val (.int (0 : Int32)), .val (.int (0 : Int32)), .val (.int (0 : Int32)), .val (.ref a126), .val (.int (0 : Int32)), .unset, .unset, .unset] []) _ _ _
        refine Go.iload X126 hx (hb hby at_47) rfl ?_
        show Go _ _ _ _ T126 (mkF m 49 #[.val (.int p0), .val (.long p1), .second, .val (.int p2), .val (.int (0 : Int32)), .val (.int (0 : Int32)), .val (.int (0 : Int32)), .val (.ref a126), .val (.int (0 : Int32)), .unset, .unset, .unset] [(.int (0 : Int32))]) _ _ _
        refine Go.ifYes X126 hx (hb hby at_49) (XT.i0_eq_t (by decide)) (pc' := 64) (by decide) (by decide) ?_
        show Go _ _ _ _ T126 (mkF m 64 #[.val (.int p0), .val (.long p1), .second, .val (.int p2), .val (.int (0 : Int32)), .val (.int (0 : Int32)), .val (.int (0 : Int32)), .val (.ref a126), .val (.int (0 : Int32)), .unset, .unset, .unset] []) _ _ _
        refine Go.iload X126 hx (hb hby at_64) rfl ?_
        show Go _ _ _ _ T126 (mkF m 66 #[.val (.int p0), .val (.long p1), .second, .val (.int p2), .val (.int (0 : Int32)), .val (.int (0 : Int32)), .val (.int (0 : Int32)), .val (.ref a126), .val (.int (0 : Int32)), .unset, .unset, .unset] [(.int (0 : Int32))]) _ _ _
        refine Go.ifYes X126 hx (hb hby at_66) (XT.i0_eq_t (by decide)) (pc' := 94) (by decide) (by decide) ?_
        show Go _ _ _ _ T126 (mkF m 94 #[.val (.int p0), .val (.long p1), .second, .val (.int p2), .val (.int (0 : Int32)), .val (.int (0 : Int32)), .val (.int (0 : Int32)), .val (.ref a126), .val (.int (0 : Int32)), .unset, .unset, .unset] []) _ _ _
        refine Go.newO X126 hx hZ hown (w1 hw) (w2 hw) (w3 hw) e126 (hb hby at_94) (by decide) (by decide) ?_
        intro T127 h127 a127 b127 X127 e127 E127 A127 D127
        have g_a127 : n0 ≤ a127 := by rw [b127]; exact Z126
        have y_a127 : h0.size ≤ a127 := by rw [b127]; exact B126
        have ne_a126_a127 : a126 ≠ a127 := by rw [b127]; exact Nat.ne_of_lt A126.lt
        have Z127 : n0 ≤ h127.size := Nat.le_trans Z126 E127.1
        have B127 : h0.size ≤ h127.size := Nat.le_trans B126 E127.1
        show Go _ _ _ _ T127 (mkF m 97 #[.val (.int p0), .val (.long p1), .second, .val (.int p2), .val (.int (0 : Int32)), .val (.int (0 : Int32)), .val (.int (0 : Int32)), .val (.ref a126), .val (.int (0 : Int32)), .unset, .unset, .unset] [(.ref a127)]) _ _ _
        refine Go.dup X127 hx (hb hby at_97) rfl ?_
        show Go _ _ _ _ T127 (mkF m 98 #[.val (.int p0), .val (.long p1), .second, .val (.int p2), .val (.int (0 : Int32)), .val (.int (0 : Int32)), .val (.int (0 : Int32)), .val (.ref a126), .val (.int (0 : Int32)), .unset, .unset, .unset] [(.ref a127), (.ref a127)]) _ _ _
        have F128 := (D127 (Or.inl (w12 hw)) (ty := (.array .byte)) (by decide))
        have F129 := (D127 (Or.inl (w14 hw)) (ty := .int) (by decide))
        refine Go.callI (W := 1) (a := a127) (argsL := []) (rest := [(.ref a127)]) X127 hx hZ hown rfl (w4 hw) (w5 hw) (w3 hw) (w6 hw) (by decide) (rm_init l Z a0 hw a127 h127 n0 Z127 A127 g_a127 F128 F129) e127 (lenOf pd_5 rfl) (hb hby at_98) (by rw [hml]; rfl) rfl (Nat.le_of_eq rfl) (by decide) (by decide) (by decide) (by decide) ?_
        intro v130 T130 L130 X130 q130
        obtain ⟨ab130, kb130, rfl, M130, K130, P130_0, P130_1, P130_2, P130_3, P130_4, P130_5, P130_6⟩ := q130
        have N130 := Fr.app N0 M130
        have Z130 : n0 ≤ T130.heap.size := Nat.le_trans Z127 K130.1
        have B130 : h0.size ≤ T130.heap.size := Nat.le_trans B127 K130.1
        have ne_a126_ab130 : a126 ≠ ab130 := Nat.ne_of_lt (Nat.lt_of_lt_of_le ((Af.ext E127 A126)).lt P130_2)
        have ne_a127_ab130 : a127 ≠ ab130 := Nat.ne_of_lt (Nat.lt_of_lt_of_le (A127).lt P130_2)
        show Go _ _ _ _ T130 (mkF m 101 #[.val (.int p0), .val (.long p1), .second, .val (.int p2), .val (.int (0 : Int32)), .val (.int (0 : Int32)), .val (.int (0 : Int32)), .val (.ref a126), .val (.int (0 : Int32)), .unset, .unset, .unset] [(.ref a127)]) _ _ _
        refine Go.astore X130 hx (hb hby at_101) rfl (l' := #[.val (.int p0), .val (.long p1), .second, .val (.int p2), .val (.int (0 : Int32)), .val (.int (0 : Int32)), .val (.int (0 : Int32)), .val (.ref a126), .val (.int (0 : Int32)), .val (.ref a127), .unset, .unset]) rfl ?_
        show Go _ _ _ _ T130 (mkF m 103 #[.val (.int p0), .val (.long p1), .second, .val (.int p2), .val (.int (0 : Int32)), .val (.int (0 : Int32)), .val (.int (0 : Int32)), .val (.ref a126), .val (.int (0 : Int32)), .val (.ref a127), .unset, .unset] []) _ _ _
        refine Go.iload X130 hx (hb hby at_103) rfl ?_
        show Go _ _ _ _ T130 (mkF m 105 #[.val (.int p0), .val (.long p1), .second, .val (.int p2), .val (.int (0 : Int32)), .val (.int (0 : Int32)), .val (.int (0 : Int32)), .val (.ref a126), .val (.int (0 : Int32)), .val (.ref a127), .unset, .unset] [(.int (0 : Int32))]) _ _ _
        refine Go.ifYes X130 hx (hb hby at_105) (XT.i0_eq_t (by decide)) (pc' := 131) (by decide) (by decide) ?_
        show Go _ _ _ _ T130 (mkF m 131 #[.val (.int p0), .val (.long p1), .second, .val (.int p2), .val (.int (0 : Int32)), .val (.int (0 : Int32)), .val (.int (0 : Int32)), .val (.ref a126), .val (.int (0 : Int32)), .val (.ref a127), .unset, .unset] []) _ _ _
        refine Go.iload X130 hx (hb hby at_131) rfl ?_
        show Go _ _ _ _ T130 (mkF m 133 #[.val (.int p0), .val (.long p1), .second, .val (.int p2), .val (.int (0 : Int32)), .val (.int (0 : Int32)), .val (.int (0 : Int32)), .val (.ref a126), .val (.int (0 : Int32)), .val (.ref a127), .unset, .unset] [(.int (0 : Int32))]) _ _ _
        refine Go.ifYes X130 hx (hb hby at_133) (XT.i0_eq_t (by decide)) (pc' := 142) (by decide) (by decide) ?_
        show Go _ _ _ _ T130 (mkF m 142 #[.val (.int p0), .val (.long p1), .second, .val (.int p2), .val (.int (0 : Int32)), .val (.int (0 : Int32)), .val (.int (0 : Int32)), .val (.ref a126), .val (.int (0 : Int32)), .val (.ref a127), .unset, .unset] []) _ _ _
        refine Go.iload X130 hx (hb hby at_142) rfl ?_
        show Go _ _ _ _ T130 (mkF m 144 #[.val (.int p0), .val (.long p1), .second, .val (.int p2), .val (.int (0 : Int32)), .val (.int (0 : Int32)), .val (.int (0 : Int32)), .val (.ref a126), .val (.int (0 : Int32)), .val (.ref a127), .unset, .unset] [(.int (0 : Int32))]) _ _ _
        refine Go.ifYes X130 hx (hb hby at_144) (XT.i0_eq_t (by decide)) (pc' := 153) (by decide) (by decide) ?_
        show Go _ _ _ _ T130 (mkF m 153 #[.val (.int p0), .val (.long p1), .second, .val (.int p2), .val (.int (0 : Int32)), .val (.int (0 : Int32)), .val (.int (0 : Int32)), .val (.ref a126), .val (.int (0 : Int32)), .val (.ref a127), .unset, .unset] []) _ _ _
        refine Go.aload X130 hx (hb hby at_153) rfl rfl ?_
        show Go _ _ _ _ T130 (mkF m 155 #[.val (.int p0), .val (.long p1), .second, .val (.int p2), .val (.int (0 : Int32)), .val (.int (0 : Int32)), .val (.int (0 : Int32)), .val (.ref a126), .val (.int (0 : Int32)), .val (.ref a127), .unset, .unset] [(.ref a127)]) _ _ _
        have F131 := (Af.keep (Af.ext E127 A126) K130 (ninS ne_a126_a127 nin0))
        refine Go.callV (W := 0) (argsL := []) (rest := []) X130 hx hZ hown (w28 hw) (w29 hw) (w31 hw) (w30 hw) (w3 hw) (w32 hw) (notFace_of_selects (args := #[]) (mvT hZ (w31 hw))) (by decide) P130_0 (rm_tb0 l Z a0 hw a127 ab130 kb130 (fun _ => (0 : Int32)) T130.heap n0 Z130 okB0 P130_4 P130_5 P130_6) rfl (lenOf pd_6 rfl) (hb hby at_155) (by rw [hml]; rfl) rfl (Nat.le_of_eq rfl) (by decide) (by decide) (by decide) (by decide) ?_
        intro v132 T132 L132 X132 q132
        obtain ⟨r132, kr132, rfl, M132, K132, P132_0, P132_1, P132_2⟩ := q132
        have N132 := Fr.app N130 M132
        have Z132 : n0 ≤ T132.heap.size := Nat.le_trans Z130 K132.1
        have B132 : h0.size ≤ T132.heap.size := Nat.le_trans B130 K132.1
        have ne_a126_r132 : a126 ≠ r132 := Nat.ne_of_lt (Nat.lt_of_lt_of_le (F131).lt P132_1)
        have ne_a127_r132 : a127 ≠ r132 := Nat.ne_of_lt (Nat.lt_of_lt_of_le (P130_0).lt P132_1)
        have ne_ab130_r132 : ab130 ≠ r132 := Nat.ne_of_lt (Nat.lt_of_lt_of_le (P130_6).lt P132_1)
        show Go _ _ _ _ T132 (mkF m 158 #[.val (.int p0), .val (.long p1), .second, .val (.int p2), .val (.int (0 : Int32)), .val (.int (0 : Int32)), .val (.int (0 : Int32)), .val (.ref a126), .val (.int (0 : Int32)), .val (.ref a127), .unset, .unset] [(.ref r132)]) _ _ _
        refine Go.astore X132 hx (hb hby at_158) rfl (l' := #[.val (.int p0), .val (.long p1), .second, .val (.int p2), .val (.int (0 : Int32)), .val (.int (0 : Int32)), .val (.int (0 : Int32)), .val (.ref a126), .val (.int (0 : Int32)), .val (.ref a127), .val (.ref r132), .unset]) rfl ?_
        show Go _ _ _ _ T132 (mkF m 160 #[.val (.int p0), .val (.long p1), .second, .val (.int p2), .val (.int (0 : Int32)), .val (.int (0 : Int32)), .val (.int (0 : Int32)), .val (.ref a126), .val (.int (0 : Int32)), .val (.ref a127), .val (.ref r132), .unset] []) _ _ _
        refine Go.aload X132 hx (hb hby at_160) rfl rfl ?_
        show Go _ _ _ _ T132 (mkF m 162 #[.val (.int p0), .val (.long p1), .second, .val (.int p2), .val (.int (0 : Int32)), .val (.int (0 : Int32)), .val (.int (0 : Int32)), .val (.ref a126), .val (.int (0 : Int32)), .val (.ref a127), .val (.ref r132), .unset] [(.ref r132)]) _ _ _
        refine Go.aload X132 hx (hb hby at_162) rfl rfl ?_
        show Go _ _ _ _ T132 (mkF m 164 #[.val (.int p0), .val (.long p1), .second, .val (.int p2), .val (.int (0 : Int32)), .val (.int (0 : Int32)), .val (.int (0 : Int32)), .val (.ref a126), .val (.int (0 : Int32)), .val (.ref a127), .val (.ref r132), .unset] [(.ref a126), (.ref r132)]) _ _ _
        refine Go.iload X132 hx (hb hby at_164) rfl ?_
        show Go _ _ _ _ T132 (mkF m 166 #[.val (.int p0), .val (.long p1), .second, .val (.int p2), .val (.int (0 : Int32)), .val (.int (0 : Int32)), .val (.int (0 : Int32)), .val (.ref a126), .val (.int (0 : Int32)), .val (.ref a127), .val (.ref r132), .unset] [(.int (0 : Int32)), (.ref a126), (.ref r132)]) _ _ _
        refine Go.callS (W := 0) (argsL := [(.ref r132), (.ref a126), (.int (0 : Int32))]) (rest := []) X132 hx hZ hown (w51 hw) (w52 hw) (w53 hw) (w54 hw) (by decide) (rm_ma0 l Z a0 hw r132 a126 kr132 (fun i => (fun _ => (0 : Int32)) (i + 4)) k126 (fun _ => (0 : Int32)) T132.heap n0 Z132 P132_2 (Af.keep F131 K132 nin0)) rfl (lenOf pd_7 rfl) (hb hby at_166) (by rw [hml]; rfl) rfl (Nat.le_of_eq rfl) (by decide) (by decide) (by decide) (by decide) ?_
        intro v133 T133 L133 X133 q133
        obtain ⟨rfl, M133, e133⟩ := q133
        have N133 := Fr.app N132 M133
        show Go _ _ _ _ T133 (mkF m 169 #[.val (.int p0), .val (.long p1), .second, .val (.int p2), .val (.int (0 : Int32)), .val (.int (0 : Int32)), .val (.int (0 : Int32)), .val (.ref a126), .val (.int (0 : Int32)), .val (.ref a127), .val (.ref r132), .unset] [(.int (1 : Int32))]) _ _ _
        refine Go.ifYes X133 hx (hb hby at_169) (XT.i0_ne_t (by decide)) (pc' := 174) (by decide) (by decide) ?_
        show Go _ _ _ _ T133 (mkF m 174 #[.val (.int p0), .val (.long p1), .second, .val (.int p2), .val (.int (0 : Int32)), .val (.int (0 : Int32)), .val (.int (0 : Int32)), .val (.ref a126), .val (.int (0 : Int32)), .val (.ref a127), .val (.ref r132), .unset] []) _ _ _
        refine Go.aload X133 hx (hb hby at_174) rfl rfl ?_
        show Go _ _ _ _ T133 (mkF m 176 #[.val (.int p0), .val (.long p1), .second, .val (.int p2), .val (.int (0 : Int32)), .val (.int (0 : Int32)), .val (.int (0 : Int32)), .val (.ref a126), .val (.int (0 : Int32)), .val (.ref a127), .val (.ref r132), .unset] [(.ref r132)]) _ _ _
        refine Go.alen X133 hx hZ e133 P132_2 (hb hby at_176) ?_
        show Go _ _ _ _ T133 (mkF m 177 #[.val (.int p0), .val (.long p1), .second, .val (.int p2), .val (.int (0 : Int32)), .val (.int (0 : Int32)), .val (.int (0 : Int32)), .val (.ref a126), .val (.int (0 : Int32)), .val (.ref a127), .val (.ref r132), .unset] [(.int (0 : Int32))]) _ _ _
        refine Go.ifYes X133 hx (hb hby at_177) (XT.i0_le_t (by decide)) (pc' := 191) (by decide) (by decide) ?_
        show Go _ _ _ _ T133 (mkF m 191 #[.val (.int p0), .val (.long p1), .second, .val (.int p2), .val (.int (0 : Int32)), .val (.int (0 : Int32)), .val (.int (0 : Int32)), .val (.ref a126), .val (.int (0 : Int32)), .val (.ref a127), .val (.ref r132), .unset] []) _ _ _
        refine Go.aload X133 hx (hb hby at_191) rfl rfl ?_
        show Go _ _ _ _ T133 (mkF m 193 #[.val (.int p0), .val (.long p1), .second, .val (.int p2), .val (.int (0 : Int32)), .val (.int (0 : Int32)), .val (.int (0 : Int32)), .val (.ref a126), .val (.int (0 : Int32)), .val (.ref a127), .val (.ref r132), .unset] [(.ref a127)]) _ _ _
        refine Go.callV (W := 0) (argsL := []) (rest := []) X133 hx hZ hown (w28 hw) (w29 hw) (w31 hw) (w30 hw) (w3 hw) (w32 hw) (notFace_of_selects (args := #[]) (mvT hZ (w31 hw))) (by decide) (Exa.keep P130_0 K132) (rm_tb0 l Z a0 hw a127 ab130 kb130 (fun _ => (0 : Int32)) T132.heap n0 Z132 okB0 (Fld.keep P130_4 K132 nin0) (Fld.keep P130_5 K132 nin0) (Af.keep P130_6 K132 nin0)) e133 (lenOf pd_6 rfl) (hb hby at_193) (by rw [hml]; rfl) rfl (Nat.le_of_eq rfl) (by decide) (by decide) (by decide) (by decide) ?_
        intro v134 T134 L134 X134 q134
        obtain ⟨r134, kr134, rfl, M134, K134, P134_0, P134_1, P134_2⟩ := q134
        have N134 := Fr.app N133 M134
        have Z134 : n0 ≤ T134.heap.size := Nat.le_trans Z132 K134.1
        have B134 : h0.size ≤ T134.heap.size := Nat.le_trans B132 K134.1
        have ne_a126_r134 : a126 ≠ r134 := Nat.ne_of_lt (Nat.lt_of_lt_of_le ((Af.keep F131 K132 nin0)).lt P134_1)
        have ne_a127_r134 : a127 ≠ r134 := Nat.ne_of_lt (Nat.lt_of_lt_of_le ((Exa.keep P130_0 K132)).lt P134_1)
        have ne_ab130_r134 : ab130 ≠ r134 := Nat.ne_of_lt (Nat.lt_of_lt_of_le ((Af.keep P130_6 K132 nin0)).lt P134_1)
        have ne_r132_r134 : r132 ≠ r134 := Nat.ne_of_lt (Nat.lt_of_lt_of_le (P132_2).lt P134_1)
        show Go _ _ _ _ T134 (mkF m 196 #[.val (.int p0), .val (.long p1), .second, .val (.int p2), .val (.int (0 : Int32)), .val (.int (0 : Int32)), .val (.int (0 : Int32)), .val (.ref a126), .val (.int (0 : Int32)), .val (.ref a127), .val (.ref r132), .unset] [(.ref r134)]) _ _ _
        refine Go.astore X134 hx (hb hby at_196) rfl (l' := #[.val (.int p0), .val (.long p1), .second, .val (.int p2), .val (.int (0 : Int32)), .val (.int (0 : Int32)), .val (.int (0 : Int32)), .val (.ref a126), .val (.int (0 : Int32)), .val (.ref a127), .val (.ref r132), .val (.ref r134)]) rfl ?_
        show Go _ _ _ _ T134 (mkF m 198 #[.val (.int p0), .val (.long p1), .second, .val (.int p2), .val (.int (0 : Int32)), .val (.int (0 : Int32)), .val (.int (0 : Int32)), .val (.ref a126), .val (.int (0 : Int32)), .val (.ref a127), .val (.ref r132), .val (.ref r134)] []) _ _ _
        refine Go.aload X134 hx (hb hby at_198) rfl rfl ?_
        show Go _ _ _ _ T134 (mkF m 200 #[.val (.int p0), .val (.long p1), .second, .val (.int p2), .val (.int (0 : Int32)), .val (.int (0 : Int32)), .val (.int (0 : Int32)), .val (.ref a126), .val (.int (0 : Int32)), .val (.ref a127), .val (.ref r132), .val (.ref r134)] [(.ref r134)]) _ _ _
        refine Go.aload X134 hx (hb hby at_200) rfl rfl ?_
        show Go _ _ _ _ T134 (mkF m 202 #[.val (.int p0), .val (.long p1), .second, .val (.int p2), .val (.int (0 : Int32)), .val (.int (0 : Int32)), .val (.int (0 : Int32)), .val (.ref a126), .val (.int (0 : Int32)), .val (.ref a127), .val (.ref r132), .val (.ref r134)] [(.ref a126), (.ref r134)]) _ _ _
        refine Go.iload X134 hx (hb hby at_202) rfl ?_
        show Go _ _ _ _ T134 (mkF m 204 #[.val (.int p0), .val (.long p1), .second, .val (.int p2), .val (.int (0 : Int32)), .val (.int (0 : Int32)), .val (.int (0 : Int32)), .val (.ref a126), .val (.int (0 : Int32)), .val (.ref a127), .val (.ref r132), .val (.ref r134)] [(.int (0 : Int32)), (.ref a126), (.ref r134)]) _ _ _
        have F135 := (Af.keep (Af.keep F131 K132 nin0) K134 nin0)
        refine Go.callS (W := 0) (argsL := [(.ref r134), (.ref a126), (.int (0 : Int32))]) (rest := []) X134 hx hZ hown (w51 hw) (w52 hw) (w53 hw) (w54 hw) (by decide) (rm_ma0 l Z a0 hw r134 a126 kr134 (fun i => (fun _ => (0 : Int32)) (i + 4)) k126 (fun _ => (0 : Int32)) T134.heap n0 Z134 P134_2 F135) rfl (lenOf pd_7 rfl) (hb hby at_204) (by rw [hml]; rfl) rfl (Nat.le_of_eq rfl) (by decide) (by decide) (by decide) (by decide) ?_
        intro v136 T136 L136 X136 q136
        obtain ⟨rfl, M136, e136⟩ := q136
        have N136 := Fr.app N134 M136
        show Go _ _ _ _ T136 (mkF m 207 #[.val (.int p0), .val (.long p1), .second, .val (.int p2), .val (.int (0 : Int32)), .val (.int (0 : Int32)), .val (.int (0 : Int32)), .val (.ref a126), .val (.int (0 : Int32)), .val (.ref a127), .val (.ref r132), .val (.ref r134)] [(.int (1 : Int32))]) _ _ _
        refine Go.retZ X136 hx hlk hret (by decide) (hb hby at_207) (by decide) (by decide) ?_
        rw [e136]
        exact ⟨rfl, N136⟩
      · refine Go.ifNo X0 hx (hb hby at_29) (XT.i0_eq_f c125) ?_
        show Go _ _ _ _ s₁ (mkF m 32 #[.val (.int p0), .val (.long p1), .second, .val (.int p2), .val (.int (0 : Int32)), .val (.int (0 : Int32)), .unset, .unset, .unset, .unset, .unset, .unset] []) _ _ _
        refine Go.iconst X0 hx (hb hby at_32) ?_
        show Go _ _ _ _ s₁ (mkF m 33 #[.val (.int p0), .val (.long p1), .second, .val (.int p2), .val (.int (0 : Int32)), .val (.int (0 : Int32)), .unset, .unset, .unset, .unset, .unset, .unset] [(.int (1 : Int32))]) _ _ _
        refine Go.goto X0 hx (hb hby at_33) (pc' := 37) (by decide) (by decide) ?_
        show Go _ _ _ _ s₁ (mkF m 37 #[.val (.int p0), .val (.long p1), .second, .val (.int p2), .val (.int (0 : Int32)), .val (.int (0 : Int32)), .unset, .unset, .unset, .unset, .unset, .unset] [(.int (1 : Int32))]) _ _ _
        refine Go.istore X0 hx (hb hby at_37) (l' := #[.val (.int p0), .val (.long p1), .second, .val (.int p2), .val (.int (0 : Int32)), .val (.int (0 : Int32)), .val (.int (1 : Int32)), .unset, .unset, .unset, .unset, .unset]) rfl ?_
        show Go _ _ _ _ s₁ (mkF m 39 #[.val (.int p0), .val (.long p1), .second, .val (.int p2), .val (.int (0 : Int32)), .val (.int (0 : Int32)), .val (.int (1 : Int32)), .unset, .unset, .unset, .unset, .unset] []) _ _ _
        refine Go.iconst X0 hx (hb hby at_39) ?_
        show Go _ _ _ _ s₁ (mkF m 40 #[.val (.int p0), .val (.long p1), .second, .val (.int p2), .val (.int (0 : Int32)), .val (.int (0 : Int32)), .val (.int (1 : Int32)), .unset, .unset, .unset, .unset, .unset] [(.int (3 : Int32))]) _ _ _
        refine Go.newarray (aty := .int) (cap := 3) X0 hx hZ (w0 hw) e0 (hb hby at_40) (by decide) (by decide) (by decide) (by decide) (by decide) ?_
        intro T137 h137 a137 k137 b137 X137 e137 E137 A137
        have g_a137 : n0 ≤ a137 := by rw [b137]; exact Z0
        have y_a137 : h0.size ≤ a137 := by rw [b137]; exact (Nat.le_refl _)
        have Z137 : n0 ≤ h137.size := Nat.le_trans Z0 E137.1
        have B137 : h0.size ≤ h137.size := Nat.le_trans (Nat.le_refl _) E137.1
        show Go _ _ _ _ T137 (mkF m 42 #[.val (.int p0), .val (.long p1), .second, .val (.int p2), .val (.int (0 : Int32)), .val (.int (0 : Int32)), .val (.int (1 : Int32)), .unset, .unset, .unset, .unset, .unset] [(.ref a137)]) _ _ _
        refine Go.astore X137 hx (hb hby at_42) rfl (l' := #[.val (.int p0), .val (.long p1), .second, .val (.int p2), .val (.int (0 : Int32)), .val (.int (0 : Int32)), .val (.int (1 : Int32)), .val (.ref a137), .unset, .unset, .unset, .unset]) rfl ?_
        show Go _ _ _ _ T137 (mkF m 44 #[.val (.int p0), .val (.long p1), .second, .val (.int p2), .val (.int (0 : Int32)), .val (.int (0 : Int32)), .val (.int (1 : Int32)), .val (.ref a137), .unset, .unset, .unset, .unset] []) _ _ _
        refine Go.iconst X137 hx (hb hby at_44) ?_
        show Go _ _ _ _ T137 (mkF m 45 #[.val (.int p0), .val (.long p1), .second, .val (.int p2), .val (.int (0 : Int32)), .val (.int (0 : Int32)), .val (.int (1 : Int32)), .val (.ref a137), .unset, .unset, .unset, .unset] [(.int (0 : Int32))]) _ _ _
        refine Go.istore X137 hx (hb hby at_45) (l' := #[.val (.int p0), .val (.long p1), .second, .val (.int p2), .val (.int (0 : Int32)), .val (.int (0 : Int32)), .val (.int (1 : Int32)), .val (.ref a137), .val (.int (0 : Int32)), .unset, .unset, .unset]) rfl ?_
        show Go _ _ _ _ T137 (mkF m 47 #[.val (.int p0), .val (.long p1), .second, .val (.int p2), .val (.int (0 : Int32)), .val (.int (0 : Int32)), .val (.int (1 : Int32)), .val (.ref a137), .val (.int (0 : Int32)), .unset, .unset, .unset] []) _ _ _
        refine Go.iload X137 hx (hb hby at_47) rfl ?_
        show Go _ _ _ _ T137 (mkF m 49 #[.val (.int p0), .val (.long p1), .second, .val (.int p2), .val (.int (0 : Int32)), .val (.int (0 : Int32)), .val (.int (1 : Int32)), .val (.ref a137), .val (.int (0 : Int32)), .unset, .unset, .unset] [(.int (0 : Int32))]) _ _ _
        refine Go.ifYes X137 hx (hb hby at_49) (XT.i0_eq_t (by decide)) (pc' := 64) (by decide) (by decide) ?_
        show Go _ _ _ _ T137 (mkF m 64 #[.val (.int p0), .val (.long p1), .second, .val (.int p2), .val (.int (0 : Int32)), .val (.int (0 : Int32)), .val (.int (1 : Int32)), .val (.ref a137), .val (.int (0 : Int32)), .unset, .unset, .unset] []) _ _ _
        refine Go.iload X137 hx (hb hby at_64) rfl ?_
        show Go _ _ _ _ T137 (mkF m 66 #[.val (.int p0), .val (.long p1), .second, .val (.int p2), .val (.int (0 : Int32)), .val (.int (0 : Int32)), .val (.int (1 : Int32)), .val (.ref a137), .val (.int (0 : Int32)), .unset, .unset, .unset] [(.int (0 : Int32))]) _ _ _
        refine Go.ifYes X137 hx (hb hby at_66) (XT.i0_eq_t (by decide)) (pc' := 94) (by decide) (by decide) ?_
        show Go _ _ _ _ T137 (mkF m 94 #[.val (.int p0), .val (.long p1), .second, .val (.int p2), .val (.int (0 : Int32)), .val (.int (0 : Int32)), .val (.int (1 : Int32)), .val (.ref a137), .val (.int (0 : Int32)), .unset, .unset, .unset] []) _ _ _
        refine Go.newO X137 hx hZ hown (w1 hw) (w2 hw) (w3 hw) e137 (hb hby at_94) (by decide) (by decide) ?_
        intro T138 h138 a138 b138 X138 e138 E138 A138 D138
        have g_a138 : n0 ≤ a138 := by rw [b138]; exact Z137
        have y_a138 : h0.size ≤ a138 := by rw [b138]; exact B137
        have ne_a137_a138 : a137 ≠ a138 := by rw [b138]; exact Nat.ne_of_lt A137.lt
        have Z138 : n0 ≤ h138.size := Nat.le_trans Z137 E138.1
        have B138 : h0.size ≤ h138.size := Nat.le_trans B137 E138.1
        show Go _ _ _ _ T138 (mkF m 97 #[.val (.int p0), .val (.long p1), .second, .val (.int p2), .val (.int (0 : Int32)), .val (.int (0 : Int32)), .val (.int (1 : Int32)), .val (.ref a137), .val (.int (0 : Int32)), .unset, .unset, .unset] [(.ref a138)]) _ _ _
        refine Go.dup X138 hx (hb hby at_97) rfl ?_
        show Go _ _ _ _ T138 (mkF m 98 #[.val (.int p0), .val (.long p1), .second, .val (.int p2), .val (.int (0 : Int32)), .val (.int (0 : Int32)), .val (.int (1 : Int32)), .val (.ref a137), .val (.int (0 : Int32)), .unset, .unset, .unset] [(.ref a138), (.ref a138)]) _ _ _
        have F139 := (D138 (Or.inl (w12 hw)) (ty := (.array .byte)) (by decide))
        have F140 := (D138 (Or.inl (w14 hw)) (ty := .int) (by decide))
        refine Go.callI (W := 1) (a := a138) (argsL := []) (rest := [(.ref a138)]) X138 hx hZ hown rfl (w4 hw) (w5 hw) (w3 hw) (w6 hw) (by decide) (rm_init l Z a0 hw a138 h138 n0 Z138 A138 g_a138 F139 F140) e138 (lenOf pd_5 rfl) (hb hby at_98) (by rw [hml]; rfl) rfl (Nat.le_of_eq rfl) (by decide) (by decide) (by decide) (by decide) ?_
        intro v141 T141 L141 X141 q141
        obtain ⟨ab141, kb141, rfl, M141, K141, P141_0, P141_1, P141_2, P141_3, P141_4, P141_5, P141_6⟩ := q141
        have N141 := Fr.app N0 M141
        have Z141 : n0 ≤ T141.heap.size := Nat.le_trans Z138 K141.1
        have B141 : h0.size ≤ T141.heap.size := Nat.le_trans B138 K141.1
        have ne_a137_ab141 : a137 ≠ ab141 := Nat.ne_of_lt (Nat.lt_of_lt_of_le ((Af.ext E138 A137)).lt P141_2)
        have ne_a138_ab141 : a138 ≠ ab141 := Nat.ne_of_lt (Nat.lt_of_lt_of_le (A138).lt P141_2)
        show Go _ _ _ _ T141 (mkF m 101 #[.val (.int p0), .val (.long p1), .second, .val (.int p2), .val (.int (0 : Int32)), .val (.int (0 : Int32)), .val (.int (1 : Int32)), .val (.ref a137), .val (.int (0 : Int32)), .unset, .unset, .unset] [(.ref a138)]) _ _ _
        refine Go.astore X141 hx (hb hby at_101) rfl (l' := #[.val (.int p0), .val (.long p1), .second, .val (.int p2), .val (.int (0 : Int32)), .val (.int (0 : Int32)), .val (.int (1 : Int32)), .val (.ref a137), .val (.int (0 : Int32)), .val (.ref a138), .unset, .unset]) rfl ?_
        show Go _ _ _ _ T141 (mkF m 103 #[.val (.int p0), .val (.long p1), .second, .val (.int p2), .val (.int (0 : Int32)), .val (.int (0 : Int32)), .val (.int (1 : Int32)), .val (.ref a137), .val (.int (0 : Int32)), .val (.ref a138), .unset, .unset] []) _ _ _
        refine Go.iload X141 hx (hb hby at_103) rfl ?_
        show Go _ _ _ _ T141 (mkF m 105 #[.val (.int p0), .val (.long p1), .second, .val (.int p2), .val (.int (0 : Int32)), .val (.int (0 : Int32)), .val (.int (1 : Int32)), .val (.ref a137), .val (.int (0 : Int32)), .val (.ref a138), .unset, .unset] [(.int (1 : Int32))]) _ _ _
        refine Go.ifNo X141 hx (hb hby at_105) (XT.i0_eq_f (by decide)) ?_
        show Go _ _ _ _ T141 (mkF m 108 #[.val (.int p0), .val (.long p1), .second, .val (.int p2), .val (.int (0 : Int32)), .val (.int (0 : Int32)), .val (.int (1 : Int32)), .val (.ref a137), .val (.int (0 : Int32)), .val (.ref a138), .unset, .unset] []) _ _ _
        refine Go.aload X141 hx (hb hby at_108) rfl rfl ?_
        show Go _ _ _ _ T141 (mkF m 110 #[.val (.int p0), .val (.long p1), .second, .val (.int p2), .val (.int (0 : Int32)), .val (.int (0 : Int32)), .val (.int (1 : Int32)), .val (.ref a137), .val (.int (0 : Int32)), .val (.ref a138), .unset, .unset] [(.ref a138)]) _ _ _
        refine Go.lloadN X141 hx (hb hby at_110) rfl ?_
        show Go _ _ _ _ T141 (mkF m 111 #[.val (.int p0), .val (.long p1), .second, .val (.int p2), .val (.int (0 : Int32)), .val (.int (0 : Int32)), .val (.int (1 : Int32)), .val (.ref a137), .val (.int (0 : Int32)), .val (.ref a138), .unset, .unset] [(.long p1), (.ref a138)]) _ _ _
        refine Go.ldc2 X141 hx hZ hown (w64 hw) (hb hby at_111) ?_
        show Go _ _ _ _ T141 (mkF m 114 #[.val (.int p0), .val (.long p1), .second, .val (.int p2), .val (.int (0 : Int32)), .val (.int (0 : Int32)), .val (.int (1 : Int32)), .val (.ref a137), .val (.int (0 : Int32)), .val (.ref a138), .unset, .unset] [(.long (-1 : Int64)), (.long p1), (.ref a138)]) _ _ _
        refine Go.lxor X141 hx (hb hby at_114) ?_
        show Go _ _ _ _ T141 (mkF m 115 #[.val (.int p0), .val (.long p1), .second, .val (.int p2), .val (.int (0 : Int32)), .val (.int (0 : Int32)), .val (.int (1 : Int32)), .val (.ref a137), .val (.int (0 : Int32)), .val (.ref a138), .unset, .unset] [(.long (p1 ^^^ (-1 : Int64))), (.ref a138)]) _ _ _
        refine Go.callV (W := 0) (argsL := [(.long (p1 ^^^ (-1 : Int64)))]) (rest := []) X141 hx hZ hown (w58 hw) (w59 hw) (w61 hw) (w60 hw) (w3 hw) (w62 hw) (notFace_of_selects (args := #[]) (mvT hZ (w61 hw))) (by decide) P141_0 (rm_wl4 l Z a0 hw a138 (p1 ^^^ (-1 : Int64)) ab141 kb141 (fun _ => (0 : Int32)) T141.heap n0 Z141 P141_0 g_a138 P141_1 P141_3 P141_4 P141_6 P141_5) rfl (lenOf pd_8 rfl) (hb hby at_115) (by rw [hml]; rfl) rfl (Nat.le_of_eq rfl) (by decide) (by decide) (by decide) (by decide) ?_
        intro v142 T142 L142 X142 q142
        obtain ⟨rfl, M142, K142, P142_0, P142_1, P142_2, P142_3⟩ := q142
        have N142 := Fr.app N141 M142
        have Z142 : n0 ≤ T142.heap.size := Nat.le_trans Z141 K142.1
        have B142 : h0.size ≤ T142.heap.size := Nat.le_trans B141 K142.1
        show Go _ _ _ _ T142 (mkF m 118 #[.val (.int p0), .val (.long p1), .second, .val (.int p2), .val (.int (0 : Int32)), .val (.int (0 : Int32)), .val (.int (1 : Int32)), .val (.ref a137), .val (.int (0 : Int32)), .val (.ref a138), .unset, .unset] []) _ _ _
        refine Go.aload X142 hx (hb hby at_118) rfl rfl ?_
        show Go _ _ _ _ T142 (mkF m 120 #[.val (.int p0), .val (.long p1), .second, .val (.int p2), .val (.int (0 : Int32)), .val (.int (0 : Int32)), .val (.int (1 : Int32)), .val (.ref a137), .val (.int (0 : Int32)), .val (.ref a138), .unset, .unset] [(.ref a138)]) _ _ _
        refine Go.iloadN X142 hx (hb hby at_120) rfl ?_
        show Go _ _ _ _ T142 (mkF m 121 #[.val (.int p0), .val (.long p1), .second, .val (.int p2), .val (.int (0 : Int32)), .val (.int (0 : Int32)), .val (.int (1 : Int32)), .val (.ref a137), .val (.int (0 : Int32)), .val (.ref a138), .unset, .unset] [(.int p0), (.ref a138)]) _ _ _
        refine Go.iconst X142 hx (hb hby at_121) ?_
        show Go _ _ _ _ T142 (mkF m 122 #[.val (.int p0), .val (.long p1), .second, .val (.int p2), .val (.int (0 : Int32)), .val (.int (0 : Int32)), .val (.int (1 : Int32)), .val (.ref a137), .val (.int (0 : Int32)), .val (.ref a138), .unset, .unset] [(.int (-1 : Int32)), (.int p0), (.ref a138)]) _ _ _
        refine Go.ixor X142 hx (hb hby at_122) ?_
        show Go _ _ _ _ T142 (mkF m 123 #[.val (.int p0), .val (.long p1), .second, .val (.int p2), .val (.int (0 : Int32)), .val (.int (0 : Int32)), .val (.int (1 : Int32)), .val (.ref a137), .val (.int (0 : Int32)), .val (.ref a138), .unset, .unset] [(.int (p0 ^^^ (-1 : Int32))), (.ref a138)]) _ _ _
        refine Go.callV (W := 0) (argsL := [(.int (p0 ^^^ (-1 : Int32)))]) (rest := []) X142 hx hZ hown (w15 hw) (w16 hw) (w18 hw) (w17 hw) (w3 hw) (w19 hw) (notFace_of_selects (args := #[]) (mvT hZ (w18 hw))) (by decide) P142_0 (rm_wi12 l Z a0 hw a138 (p0 ^^^ (-1 : Int32)) ab141 kb141 (put4 (put4 (fun _ => (0 : Int32)) 4 ((XT.ushrL (p1 ^^^ (-1 : Int64)) (32 : Int32)).toInt32)) 8 (((p1 ^^^ (-1 : Int64))).toInt32)) T142.heap n0 Z142 P142_0 g_a138 P141_1 P141_3 P142_1 P142_3 P142_2) rfl (lenOf pd_0 rfl) (hb hby at_123) (by rw [hml]; rfl) rfl (Nat.le_of_eq rfl) (by decide) (by decide) (by decide) (by decide) ?_
        intro v143 T143 L143 X143 q143
        obtain ⟨rfl, M143, K143, P143_0, P143_1, P143_2, P143_3⟩ := q143
        have N143 := Fr.app N142 M143
        have Z143 : n0 ≤ T143.heap.size := Nat.le_trans Z142 K143.1
        have B143 : h0.size ≤ T143.heap.size := Nat.le_trans B142 K143.1
        show Go _ _ _ _ T143 (mkF m 126 #[.val (.int p0), .val (.long p1), .second, .val (.int p2), .val (.int (0 : Int32)), .val (.int (0 : Int32)), .val (.int (1 : Int32)), .val (.ref a137), .val (.int (0 : Int32)), .val (.ref a138), .unset, .unset] []) _ _ _
        refine Go.aload X143 hx (hb hby at_126) rfl rfl ?_
        show Go _ _ _ _ T143 (mkF m 128 #[.val (.int p0), .val (.long p1), .second, .val (.int p2), .val (.int (0 : Int32)), .val (.int (0 : Int32)), .val (.int (1 : Int32)), .val (.ref a137), .val (.int (0 : Int32)), .val (.ref a138), .unset, .unset] [(.ref a138)]) _ _ _
        refine Go.callV (W := 0) (argsL := []) (rest := []) X143 hx hZ hown (w65 hw) (w66 hw) (w68 hw) (w67 hw) (w3 hw) (w69 hw) (notFace_of_selects (args := #[]) (mvT hZ (w68 hw))) (by decide) P143_0 (rm_rs l Z a0 hw a138 (16 : Int32) ab141 T143.heap n0 Z143 P143_0 g_a138 P143_2 P143_1) rfl (lenOf pd_5 rfl) (hb hby at_128) (by rw [hml]; rfl) rfl (Nat.le_of_eq rfl) (by decide) (by decide) (by decide) (by decide) ?_
        intro v144 T144 L144 X144 q144
        obtain ⟨rfl, M144, K144, P144_0, P144_1, P144_2⟩ := q144
        have N144 := Fr.app N143 M144
        have Z144 : n0 ≤ T144.heap.size := Nat.le_trans Z143 K144.1
        have B144 : h0.size ≤ T144.heap.size := Nat.le_trans B143 K144.1
        show Go _ _ _ _ T144 (mkF m 131 #[.val (.int p0), .val (.long p1), .second, .val (.int p2), .val (.int (0 : Int32)), .val (.int (0 : Int32)), .val (.int (1 : Int32)), .val (.ref a137), .val (.int (0 : Int32)), .val (.ref a138), .unset, .unset] []) _ _ _
        refine Go.iload X144 hx (hb hby at_131) rfl ?_
        show Go _ _ _ _ T144 (mkF m 133 #[.val (.int p0), .val (.long p1), .second, .val (.int p2), .val (.int (0 : Int32)), .val (.int (0 : Int32)), .val (.int (1 : Int32)), .val (.ref a137), .val (.int (0 : Int32)), .val (.ref a138), .unset, .unset] [(.int (0 : Int32))]) _ _ _
        refine Go.ifYes X144 hx (hb hby at_133) (XT.i0_eq_t (by decide)) (pc' := 142) (by decide) (by decide) ?_
        show Go _ _ _ _ T144 (mkF m 142 #[.val (.int p0), .val (.long p1), .second, .val (.int p2), .val (.int (0 : Int32)), .val (.int (0 : Int32)), .val (.int (1 : Int32)), .val (.ref a137), .val (.int (0 : Int32)), .val (.ref a138), .unset, .unset] []) _ _ _
        refine Go.iload X144 hx (hb hby at_142) rfl ?_
        show Go _ _ _ _ T144 (mkF m 144 #[.val (.int p0), .val (.long p1), .second, .val (.int p2), .val (.int (0 : Int32)), .val (.int (0 : Int32)), .val (.int (1 : Int32)), .val (.ref a137), .val (.int (0 : Int32)), .val (.ref a138), .unset, .unset] [(.int (0 : Int32))]) _ _ _
        refine Go.ifYes X144 hx (hb hby at_144) (XT.i0_eq_t (by decide)) (pc' := 153) (by decide) (by decide) ?_
        show Go _ _ _ _ T144 (mkF m 153 #[.val (.int p0), .val (.long p1), .second, .val (.int p2), .val (.int (0 : Int32)), .val (.int (0 : Int32)), .val (.int (1 : Int32)), .val (.ref a137), .val (.int (0 : Int32)), .val (.ref a138), .unset, .unset] []) _ _ _
        refine Go.aload X144 hx (hb hby at_153) rfl rfl ?_
        show Go _ _ _ _ T144 (mkF m 155 #[.val (.int p0), .val (.long p1), .second, .val (.int p2), .val (.int (0 : Int32)), .val (.int (0 : Int32)), .val (.int (1 : Int32)), .val (.ref a137), .val (.int (0 : Int32)), .val (.ref a138), .unset, .unset] [(.ref a138)]) _ _ _
        have F145 := (Af.keep (Af.keep (Af.keep (Af.keep (Af.ext E138 A137) K141 (ninS ne_a137_a138 nin0)) K142 (ninS ne_a137_a138 (ninS ne_a137_ab141 nin0))) K143 (ninS ne_a137_a138 (ninS ne_a137_ab141 nin0))) K144 (ninS ne_a137_a138 nin0))
        have F146 := (Af.keep P143_3 K144 (ninS (Ne.symm P141_3) nin0))
        refine Go.callV (W := 0) (argsL := []) (rest := []) X144 hx hZ hown (w28 hw) (w29 hw) (w31 hw) (w30 hw) (w3 hw) (w32 hw) (notFace_of_selects (args := #[]) (mvT hZ (w31 hw))) (by decide) P144_0 (rm_tb0 l Z a0 hw a138 ab141 kb141 (put4 (put4 (put4 (fun _ => (0 : Int32)) 4 ((XT.ushrL (p1 ^^^ (-1 : Int64)) (32 : Int32)).toInt32)) 8 (((p1 ^^^ (-1 : Int64))).toInt32)) 12 (p0 ^^^ (-1 : Int32))) T144.heap n0 Z144 (okB_put (okB_put (okB_put okB0))) P144_2 P144_1 F146) rfl (lenOf pd_6 rfl) (hb hby at_155) (by rw [hml]; rfl) rfl (Nat.le_of_eq rfl) (by decide) (by decide) (by decide) (by decide) ?_
        intro v147 T147 L147 X147 q147
        obtain ⟨r147, kr147, rfl, M147, K147, P147_0, P147_1, P147_2⟩ := q147
        have N147 := Fr.app N144 M147
        have Z147 : n0 ≤ T147.heap.size := Nat.le_trans Z144 K147.1
        have B147 : h0.size ≤ T147.heap.size := Nat.le_trans B144 K147.1
        have ne_a137_r147 : a137 ≠ r147 := Nat.ne_of_lt (Nat.lt_of_lt_of_le (F145).lt P147_1)
        have ne_a138_r147 : a138 ≠ r147 := Nat.ne_of_lt (Nat.lt_of_lt_of_le (P144_0).lt P147_1)
        have ne_ab141_r147 : ab141 ≠ r147 := Nat.ne_of_lt (Nat.lt_of_lt_of_le (F146).lt P147_1)
        show Go _ _ _ _ T147 (mkF m 158 #[.val (.int p0), .val (.long p1), .second, .val (.int p2), .val (.int (0 : Int32)), .val (.int (0 : Int32)), .val (.int (1 : Int32)), .val (.ref a137), .val (.int (0 : Int32)), .val (.ref a138), .unset, .unset] [(.ref r147)]) _ _ _
        refine Go.astore X147 hx (hb hby at_158) rfl (l' := #[.val (.int p0), .val (.long p1), .second, .val (.int p2), .val (.int (0 : Int32)), .val (.int (0 : Int32)), .val (.int (1 : Int32)), .val (.ref a137), .val (.int (0 : Int32)), .val (.ref a138), .val (.ref r147), .unset]) rfl ?_
        show Go _ _ _ _ T147 (mkF m 160 #[.val (.int p0), .val (.long p1), .second, .val (.int p2), .val (.int (0 : Int32)), .val (.int (0 : Int32)), .val (.int (1 : Int32)), .val (.ref a137), .val (.int (0 : Int32)), .val (.ref a138), .val (.ref r147), .unset] []) _ _ _
        refine Go.aload X147 hx (hb hby at_160) rfl rfl ?_
        show Go _ _ _ _ T147 (mkF m 162 #[.val (.int p0), .val (.long p1), .second, .val (.int p2), .val (.int (0 : Int32)), .val (.int (0 : Int32)), .val (.int (1 : Int32)), .val (.ref a137), .val (.int (0 : Int32)), .val (.ref a138), .val (.ref r147), .unset] [(.ref r147)]) _ _ _
        refine Go.aload X147 hx (hb hby at_162) rfl rfl ?_
        show Go _ _ _ _ T147 (mkF m 164 #[.val (.int p0), .val (.long p1), .second, .val (.int p2), .val (.int (0 : Int32)), .val (.int (0 : Int32)), .val (.int (1 : Int32)), .val (.ref a137), .val (.int (0 : Int32)), .val (.ref a138), .val (.ref r147), .unset] [(.ref a137), (.ref r147)]) _ _ _
        refine Go.iload X147 hx (hb hby at_164) rfl ?_
        show Go _ _ _ _ T147 (mkF m 166 #[.val (.int p0), .val (.long p1), .second, .val (.int p2), .val (.int (0 : Int32)), .val (.int (0 : Int32)), .val (.int (1 : Int32)), .val (.ref a137), .val (.int (0 : Int32)), .val (.ref a138), .val (.ref r147), .unset] [(.int (0 : Int32)), (.ref a137), (.ref r147)]) _ _ _
        refine Go.callS (W := 0) (argsL := [(.ref r147), (.ref a137), (.int (0 : Int32))]) (rest := []) X147 hx hZ hown (w51 hw) (w52 hw) (w53 hw) (w54 hw) (by decide) (rm_ma0 l Z a0 hw r147 a137 kr147 (fun i => (put4 (put4 (put4 (fun _ => (0 : Int32)) 4 ((XT.ushrL (p1 ^^^ (-1 : Int64)) (32 : Int32)).toInt32)) 8 (((p1 ^^^ (-1 : Int64))).toInt32)) 12 (p0 ^^^ (-1 : Int32))) (i + 4)) k137 (fun _ => (0 : Int32)) T147.heap n0 Z147 P147_2 (Af.keep F145 K147 nin0)) rfl (lenOf pd_7 rfl) (hb hby at_166) (by rw [hml]; rfl) rfl (Nat.le_of_eq rfl) (by decide) (by decide) (by decide) (by decide) ?_
        intro v148 T148 L148 X148 q148
        obtain ⟨rfl, M148, e148⟩ := q148
        have N148 := Fr.app N147 M148
        show Go _ _ _ _ T148 (mkF m 169 #[.val (.int p0), .val (.long p1), .second, .val (.int p2), .val (.int (0 : Int32)), .val (.int (0 : Int32)), .val (.int (1 : Int32)), .val (.ref a137), .val (.int (0 : Int32)), .val (.ref a138), .val (.ref r147), .unset] [(.int (1 : Int32))]) _ _ _
        refine Go.ifYes X148 hx (hb hby at_169) (XT.i0_ne_t (by decide)) (pc' := 174) (by decide) (by decide) ?_
        show Go _ _ _ _ T148 (mkF m 174 #[.val (.int p0), .val (.long p1), .second, .val (.int p2), .val (.int (0 : Int32)), .val (.int (0 : Int32)), .val (.int (1 : Int32)), .val (.ref a137), .val (.int (0 : Int32)), .val (.ref a138), .val (.ref r147), .unset] []) _ _ _
        refine Go.aload X148 hx (hb hby at_174) rfl rfl ?_
        show Go _ _ _ _ T148 (mkF m 176 #[.val (.int p0), .val (.long p1), .second, .val (.int p2), .val (.int (0 : Int32)), .val (.int (0 : Int32)), .val (.int (1 : Int32)), .val (.ref a137), .val (.int (0 : Int32)), .val (.ref a138), .val (.ref r147), .unset] [(.ref r147)]) _ _ _
        refine Go.alen X148 hx hZ e148 P147_2 (hb hby at_176) ?_
        show Go _ _ _ _ T148 (mkF m 177 #[.val (.int p0), .val (.long p1), .second, .val (.int p2), .val (.int (0 : Int32)), .val (.int (0 : Int32)), .val (.int (1 : Int32)), .val (.ref a137), .val (.int (0 : Int32)), .val (.ref a138), .val (.ref r147), .unset] [(.int (0 : Int32))]) _ _ _
        refine Go.ifYes X148 hx (hb hby at_177) (XT.i0_le_t (by decide)) (pc' := 191) (by decide) (by decide) ?_
        show Go _ _ _ _ T148 (mkF m 191 #[.val (.int p0), .val (.long p1), .second, .val (.int p2), .val (.int (0 : Int32)), .val (.int (0 : Int32)), .val (.int (1 : Int32)), .val (.ref a137), .val (.int (0 : Int32)), .val (.ref a138), .val (.ref r147), .unset] []) _ _ _
        refine Go.aload X148 hx (hb hby at_191) rfl rfl ?_
        show Go _ _ _ _ T148 (mkF m 193 #[.val (.int p0), .val (.long p1), .second, .val (.int p2), .val (.int (0 : Int32)), .val (.int (0 : Int32)), .val (.int (1 : Int32)), .val (.ref a137), .val (.int (0 : Int32)), .val (.ref a138), .val (.ref r147), .unset] [(.ref a138)]) _ _ _
        refine Go.callV (W := 0) (argsL := []) (rest := []) X148 hx hZ hown (w28 hw) (w29 hw) (w31 hw) (w30 hw) (w3 hw) (w32 hw) (notFace_of_selects (args := #[]) (mvT hZ (w31 hw))) (by decide) (Exa.keep P144_0 K147) (rm_tb0 l Z a0 hw a138 ab141 kb141 (put4 (put4 (put4 (fun _ => (0 : Int32)) 4 ((XT.ushrL (p1 ^^^ (-1 : Int64)) (32 : Int32)).toInt32)) 8 (((p1 ^^^ (-1 : Int64))).toInt32)) 12 (p0 ^^^ (-1 : Int32))) T147.heap n0 Z147 (okB_put (okB_put (okB_put okB0))) (Fld.keep P144_2 K147 nin0) (Fld.keep P144_1 K147 nin0) (Af.keep F146 K147 nin0)) e148 (lenOf pd_6 rfl) (hb hby at_193) (by rw [hml]; rfl) rfl (Nat.le_of_eq rfl) (by decide) (by decide) (by decide) (by decide) ?_
        intro v149 T149 L149 X149 q149
        obtain ⟨r149, kr149, rfl, M149, K149, P149_0, P149_1, P149_2⟩ := q149
        have N149 := Fr.app N148 M149
        have Z149 : n0 ≤ T149.heap.size := Nat.le_trans Z147 K149.1
        have B149 : h0.size ≤ T149.heap.size := Nat.le_trans B147 K149.1
        have ne_a137_r149 : a137 ≠ r149 := Nat.ne_of_lt (Nat.lt_of_lt_of_le ((Af.keep F145 K147 nin0)).lt P149_1)
        have ne_a138_r149 : a138 ≠ r149 := Nat.ne_of_lt (Nat.lt_of_lt_of_le ((Exa.keep P144_0 K147)).lt P149_1)
        have ne_ab141_r149 : ab141 ≠ r149 := Nat.ne_of_lt (Nat.lt_of_lt_of_le ((Af.keep F146 K147 nin0)).lt P149_1)
        have ne_r147_r149 : r147 ≠ r149 := Nat.ne_of_lt (Nat.lt_of_lt_of_le (P147_2).lt P149_1)
        show Go _ _ _ _ T149 (mkF m 196 #[.val (.int p0), .val (.long p1), .second, .val (.int p2), .val (.int (0 : Int32)), .val (.int (0 : Int32)), .val (.int (1 : Int32)), .val (.ref a137), .val (.int (0 : Int32)), .val (.ref a138), .val (.ref r147), .unset] [(.ref r149)]) _ _ _
        refine Go.astore X149 hx (hb hby at_196) rfl (l' := #[.val (.int p0), .val (.long p1), .second, .val (.int p2), .val (.int (0 : Int32)), .val (.int (0 : Int32)), .val (.int (1 : Int32)), .val (.ref a137), .val (.int (0 : Int32)), .val (.ref a138), .val (.ref r147), .val (.ref r149)]) rfl ?_
        show Go _ _ _ _ T149 (mkF m 198 #[.val (.int p0), .val (.long p1), .second, .val (.int p2), .val (.int (0 : Int32)), .val (.int (0 : Int32)), .val (.int (1 : Int32)), .val (.ref a137), .val (.int (0 : Int32)), .val (.ref a138), .val (.ref r147), .val (.ref r149)] []) _ _ _
        refine Go.aload X149 hx (hb hby at_198) rfl rfl ?_
        show Go _ _ _ _ T149 (mkF m 200 #[.val (.int p0), .val (.long p1), .second, .val (.int p2), .val (.int (0 : Int32)), .val (.int (0 : Int32)), .val (.int (1 : Int32)), .val (.ref a137), .val (.int (0 : Int32)), .val (.ref a138), .val (.ref r147), .val (.ref r149)] [(.ref r149)]) _ _ _
        refine Go.aload X149 hx (hb hby at_200) rfl rfl ?_
        show Go _ _ _ _ T149 (mkF m 202 #[.val (.int p0), .val (.long p1), .second, .val (.int p2), .val (.int (0 : Int32)), .val (.int (0 : Int32)), .val (.int (1 : Int32)), .val (.ref a137), .val (.int (0 : Int32)), .val (.ref a138), .val (.ref r147), .val (.ref r149)] [(.ref a137), (.ref r149)]) _ _ _
        refine Go.iload X149 hx (hb hby at_202) rfl ?_
        show Go _ _ _ _ T149 (mkF m 204 #[.val (.int p0), .val (.long p1), .second, .val (.int p2), .val (.int (0 : Int32)), .val (.int (0 : Int32)), .val (.int (1 : Int32)), .val (.ref a137), .val (.int (0 : Int32)), .val (.ref a138), .val (.ref r147), .val (.ref r149)] [(.int (0 : Int32)), (.ref a137), (.ref r149)]) _ _ _
        have F150 := (Af.keep (Af.keep F145 K147 nin0) K149 nin0)
        refine Go.callS (W := 0) (argsL := [(.ref r149), (.ref a137), (.int (0 : Int32))]) (rest := []) X149 hx hZ hown (w51 hw) (w52 hw) (w53 hw) (w54 hw) (by decide) (rm_ma0 l Z a0 hw r149 a137 kr149 (fun i => (put4 (put4 (put4 (fun _ => (0 : Int32)) 4 ((XT.ushrL (p1 ^^^ (-1 : Int64)) (32 : Int32)).toInt32)) 8 (((p1 ^^^ (-1 : Int64))).toInt32)) 12 (p0 ^^^ (-1 : Int32))) (i + 4)) k137 (fun _ => (0 : Int32)) T149.heap n0 Z149 P149_2 F150) rfl (lenOf pd_7 rfl) (hb hby at_204) (by rw [hml]; rfl) rfl (Nat.le_of_eq rfl) (by decide) (by decide) (by decide) (by decide) ?_
        intro v151 T151 L151 X151 q151
        obtain ⟨rfl, M151, e151⟩ := q151
        have N151 := Fr.app N149 M151
        show Go _ _ _ _ T151 (mkF m 207 #[.val (.int p0), .val (.long p1), .second, .val (.int p2), .val (.int (0 : Int32)), .val (.int (0 : Int32)), .val (.int (1 : Int32)), .val (.ref a137), .val (.int (0 : Int32)), .val (.ref a138), .val (.ref r147), .val (.ref r149)] [(.int (1 : Int32))]) _ _ _
        refine Go.retZ X151 hx hlk hret (by decide) (hb hby at_207) (by decide) (by decide) ?_
        rw [e151]
        exact ⟨rfl, N151⟩
    · refine Go.ifNo X0 hx (hb hby at_16) (XT.i0_eq_f c124) ?_
      show Go _ _ _ _ s₁ (mkF m 19 #[.val (.int p0), .val (.long p1), .second, .val (.int p2), .val (.int (0 : Int32)), .unset, .unset, .unset, .unset, .unset, .unset, .unset] []) _ _ _
      refine Go.iconst X0 hx (hb hby at_19) ?_
      show Go _ _ _ _ s₁ (mkF m 20 #[.val (.int p0), .val (.long p1), .second, .val (.int p2), .val (.int (0 : Int32)), .unset, .unset, .unset, .unset, .unset, .unset, .unset] [(.int (1 : Int32))]) _ _ _
      refine Go.goto X0 hx (hb hby at_20) (pc' := 24) (by decide) (by decide) ?_
      show Go _ _ _ _ s₁ (mkF m 24 #[.val (.int p0), .val (.long p1), .second, .val (.int p2), .val (.int (0 : Int32)), .unset, .unset, .unset, .unset, .unset, .unset, .unset] [(.int (1 : Int32))]) _ _ _
      refine Go.istore X0 hx (hb hby at_24) (l' := #[.val (.int p0), .val (.long p1), .second, .val (.int p2), .val (.int (0 : Int32)), .val (.int (1 : Int32)), .unset, .unset, .unset, .unset, .unset, .unset]) rfl ?_
      show Go _ _ _ _ s₁ (mkF m 26 #[.val (.int p0), .val (.long p1), .second, .val (.int p2), .val (.int (0 : Int32)), .val (.int (1 : Int32)), .unset, .unset, .unset, .unset, .unset, .unset] []) _ _ _
      refine Go.iloadN X0 hx (hb hby at_26) rfl ?_
      show Go _ _ _ _ s₁ (mkF m 27 #[.val (.int p0), .val (.long p1), .second, .val (.int p2), .val (.int (0 : Int32)), .val (.int (1 : Int32)), .unset, .unset, .unset, .unset, .unset, .unset] [(.int p2)]) _ _ _
      refine Go.iconst X0 hx (hb hby at_27) ?_
      show Go _ _ _ _ s₁ (mkF m 28 #[.val (.int p0), .val (.long p1), .second, .val (.int p2), .val (.int (0 : Int32)), .val (.int (1 : Int32)), .unset, .unset, .unset, .unset, .unset, .unset] [(.int (4 : Int32)), (.int p2)]) _ _ _
      refine Go.iand X0 hx (hb hby at_28) ?_
      show Go _ _ _ _ s₁ (mkF m 29 #[.val (.int p0), .val (.long p1), .second, .val (.int p2), .val (.int (0 : Int32)), .val (.int (1 : Int32)), .unset, .unset, .unset, .unset, .unset, .unset] [(.int (p2 &&& (4 : Int32)))]) _ _ _
      rcases Decidable.em ((p2 &&& (4 : Int32)) = (0 : Int32)) with c152 | c152
      · refine Go.ifYes X0 hx (hb hby at_29) (XT.i0_eq_t c152) (pc' := 36) (by decide) (by decide) ?_
        show Go _ _ _ _ s₁ (mkF m 36 #[.val (.int p0), .val (.long p1), .second, .val (.int p2), .val (.int (0 : Int32)), .val (.int (1 : Int32)), .unset, .unset, .unset, .unset, .unset, .unset] []) _ _ _
        refine Go.iconst X0 hx (hb hby at_36) ?_
        show Go _ _ _ _ s₁ (mkF m 37 #[.val (.int p0), .val (.long p1), .second, .val (.int p2), .val (.int (0 : Int32)), .val (.int (1 : Int32)), .unset, .unset, .unset, .unset, .unset, .unset] [(.int (0 : Int32))]) _ _ _
        refine Go.istore X0 hx (hb hby at_37) (l' := #[.val (.int p0), .val (.long p1), .second, .val (.int p2), .val (.int (0 : Int32)), .val (.int (1 : Int32)), .val (.int (0 : Int32)), .unset, .unset, .unset, .unset, .unset]) rfl ?_
        show Go _ _ _ _ s₁ (mkF m 39 #[.val (.int p0), .val (.long p1), .second, .val (.int p2), .val (.int (0 : Int32)), .val (.int (1 : Int32)), .val (.int (0 : Int32)), .unset, .unset, .unset, .unset, .unset] []) _ _ _
        refine Go.iconst X0 hx (hb hby at_39) ?_
        show Go _ _ _ _ s₁ (mkF m 40 #[.val (.int p0), .val (.long p1), .second, .val (.int p2), .val (.int (0 : Int32)), .val (.int (1 : Int32)), .val (.int (0 : Int32)), .unset, .unset, .unset, .unset, .unset] [(.int (3 : Int32))]) _ _ _
        refine Go.newarray (aty := .int) (cap := 3) X0 hx hZ (w0 hw) e0 (hb hby at_40) (by decide) (by decide) (by decide) (by decide) (by decide) ?_
        intro T153 h153 a153 k153 b153 X153 e153 E153 A153
        have g_a153 : n0 ≤ a153 := by rw [b153]; exact Z0
        have y_a153 : h0.size ≤ a153 := by rw [b153]; exact (Nat.le_refl _)
        have Z153 : n0 ≤ h153.size := Nat.le_trans Z0 E153.1
        have B153 : h0.size ≤ h153.size := Nat.le_trans (Nat.le_refl _) E153.1
        show Go _ _ _ _ T153 (mkF m 42 #[.val (.int p0), .val (.long p1), .second, .val (.int p2), .val (.int (0 : Int32)), .val (.int (1 : Int32)), .val (.int (0 : Int32)), .unset, .unset, .unset, .unset, .unset] [(.ref a153)]) _ _ _
        refine Go.astore X153 hx (hb hby at_42) rfl (l' := #[.val (.int p0), .val (.long p1), .second, .val (.int p2), .val (.int (0 : Int32)), .val (.int (1 : Int32)), .val (.int (0 : Int32)), .val (.ref a153), .unset, .unset, .unset, .unset]) rfl ?_
        show Go _ _ _ _ T153 (mkF m 44 #[.val (.int p0), .val (.long p1), .second, .val (.int p2), .val (.int (0 : Int32)), .val (.int (1 : Int32)), .val (.int (0 : Int32)), .val (.ref a153), .unset, .unset, .unset, .unset] []) _ _ _
        refine Go.iconst X153 hx (hb hby at_44) ?_
        show Go _ _ _ _ T153 (mkF m 45 #[.val (.int p0), .val (.long p1), .second, .val (.int p2), .val (.int (0 : Int32)), .val (.int (1 : Int32)), .val (.int (0 : Int32)), .val (.ref a153), .unset, .unset, .unset, .unset] [(.int (0 : Int32))]) _ _ _
        refine Go.istore X153 hx (hb hby at_45) (l' := #[.val (.int p0), .val (.long p1), .second, .val (.int p2), .val (.int (0 : Int32)), .val (.int (1 : Int32)), .val (.int (0 : Int32)), .val (.ref a153), .val (.int (0 : Int32)), .unset, .unset, .unset]) rfl ?_
        show Go _ _ _ _ T153 (mkF m 47 #[.val (.int p0), .val (.long p1), .second, .val (.int p2), .val (.int (0 : Int32)), .val (.int (1 : Int32)), .val (.int (0 : Int32)), .val (.ref a153), .val (.int (0 : Int32)), .unset, .unset, .unset] []) _ _ _
        refine Go.iload X153 hx (hb hby at_47) rfl ?_
        show Go _ _ _ _ T153 (mkF m 49 #[.val (.int p0), .val (.long p1), .second, .val (.int p2), .val (.int (0 : Int32)), .val (.int (1 : Int32)), .val (.int (0 : Int32)), .val (.ref a153), .val (.int (0 : Int32)), .unset, .unset, .unset] [(.int (0 : Int32))]) _ _ _
        refine Go.ifYes X153 hx (hb hby at_49) (XT.i0_eq_t (by decide)) (pc' := 64) (by decide) (by decide) ?_
        show Go _ _ _ _ T153 (mkF m 64 #[.val (.int p0), .val (.long p1), .second, .val (.int p2), .val (.int (0 : Int32)), .val (.int (1 : Int32)), .val (.int (0 : Int32)), .val (.ref a153), .val (.int (0 : Int32)), .unset, .unset, .unset] []) _ _ _
        refine Go.iload X153 hx (hb hby at_64) rfl ?_
        show Go _ _ _ _ T153 (mkF m 66 #[.val (.int p0), .val (.long p1), .second, .val (.int p2), .val (.int (0 : Int32)), .val (.int (1 : Int32)), .val (.int (0 : Int32)), .val (.ref a153), .val (.int (0 : Int32)), .unset, .unset, .unset] [(.int (1 : Int32))]) _ _ _
        refine Go.ifNo X153 hx (hb hby at_66) (XT.i0_eq_f (by decide)) ?_
        show Go _ _ _ _ T153 (mkF m 69 #[.val (.int p0), .val (.long p1), .second, .val (.int p2), .val (.int (0 : Int32)), .val (.int (1 : Int32)), .val (.int (0 : Int32)), .val (.ref a153), .val (.int (0 : Int32)), .unset, .unset, .unset] []) _ _ _
        refine Go.aload X153 hx (hb hby at_69) rfl rfl ?_
        show Go _ _ _ _ T153 (mkF m 71 #[.val (.int p0), .val (.long p1), .second, .val (.int p2), .val (.int (0 : Int32)), .val (.int (1 : Int32)), .val (.int (0 : Int32)), .val (.ref a153), .val (.int (0 : Int32)), .unset, .unset, .unset] [(.ref a153)]) _ _ _
        refine Go.iload X153 hx (hb hby at_71) rfl ?_
        show Go _ _ _ _ T153 (mkF m 73 #[.val (.int p0), .val (.long p1), .second, .val (.int p2), .val (.int (0 : Int32)), .val (.int (1 : Int32)), .val (.int (0 : Int32)), .val (.ref a153), .val (.int (0 : Int32)), .unset, .unset, .unset] [(.int (0 : Int32)), (.ref a153)]) _ _ _
        refine Go.lloadN X153 hx (hb hby at_73) rfl ?_
        show Go _ _ _ _ T153 (mkF m 74 #[.val (.int p0), .val (.long p1), .second, .val (.int p2), .val (.int (0 : Int32)), .val (.int (1 : Int32)), .val (.int (0 : Int32)), .val (.ref a153), .val (.int (0 : Int32)), .unset, .unset, .unset] [(.long p1), (.int (0 : Int32)), (.ref a153)]) _ _ _
        refine Go.bipush X153 hx (hb hby at_74) ?_
        show Go _ _ _ _ T153 (mkF m 76 #[.val (.int p0), .val (.long p1), .second, .val (.int p2), .val (.int (0 : Int32)), .val (.int (1 : Int32)), .val (.int (0 : Int32)), .val (.ref a153), .val (.int (0 : Int32)), .unset, .unset, .unset] [(.int (32 : Int32)), (.long p1), (.int (0 : Int32)), (.ref a153)]) _ _ _
        refine Go.lshr X153 hx (hb hby at_76) ?_
        show Go _ _ _ _ T153 (mkF m 77 #[.val (.int p0), .val (.long p1), .second, .val (.int p2), .val (.int (0 : Int32)), .val (.int (1 : Int32)), .val (.int (0 : Int32)), .val (.ref a153), .val (.int (0 : Int32)), .unset, .unset, .unset] [(.long (p1 >>> (((32 : Int32)).toInt64 &&& 63))), (.int (0 : Int32)), (.ref a153)]) _ _ _
        refine Go.l2i X153 hx (hb hby at_77) ?_
        show Go _ _ _ _ T153 (mkF m 78 #[.val (.int p0), .val (.long p1), .second, .val (.int p2), .val (.int (0 : Int32)), .val (.int (1 : Int32)), .val (.int (0 : Int32)), .val (.ref a153), .val (.int (0 : Int32)), .unset, .unset, .unset] [(.int (((p1 >>> (((32 : Int32)).toInt64 &&& 63))).toInt32)), (.int (0 : Int32)), (.ref a153)]) _ _ _
        refine Go.iastore X153 hx hZ e153 A153 (by decide) (by decide) (hb hby at_78) ?_
        intro T154 h154 X154 e154 W154 A154
        have N154 := Fr.snoc X154 N0 g_a153
        have Z154 : n0 ≤ h154.size := by rw [Wr.size W154]; exact Z153
        have B154 : h0.size ≤ h154.size := by rw [Wr.size W154]; exact B153
        have A155 : Af Z h154 a153 k153 .int 3 (fun i => Value.int ((updI (fun _ => (0 : Int32)) 0 (((p1 >>> (((32 : Int32)).toInt64 &&& 63))).toInt32)) i)) := Af.updI A154
        show Go _ _ _ _ T154 (mkF m 79 #[.val (.int p0), .val (.long p1), .second, .val (.int p2), .val (.int (0 : Int32)), .val (.int (1 : Int32)), .val (.int (0 : Int32)), .val (.ref a153), .val (.int (0 : Int32)), .unset, .unset, .unset] []) _ _ _
        refine Go.aload X154 hx (hb hby at_79) rfl rfl ?_
        show Go _ _ _ _ T154 (mkF m 81 #[.val (.int p0), .val (.long p1), .second, .val (.int p2), .val (.int (0 : Int32)), .val (.int (1 : Int32)), .val (.int (0 : Int32)), .val (.ref a153), .val (.int (0 : Int32)), .unset, .unset, .unset] [(.ref a153)]) _ _ _
        refine Go.iload X154 hx (hb hby at_81) rfl ?_
        show Go _ _ _ _ T154 (mkF m 83 #[.val (.int p0), .val (.long p1), .second, .val (.int p2), .val (.int (0 : Int32)), .val (.int (1 : Int32)), .val (.int (0 : Int32)), .val (.ref a153), .val (.int (0 : Int32)), .unset, .unset, .unset] [(.int (0 : Int32)), (.ref a153)]) _ _ _
        refine Go.iconst X154 hx (hb hby at_83) ?_
        show Go _ _ _ _ T154 (mkF m 84 #[.val (.int p0), .val (.long p1), .second, .val (.int p2), .val (.int (0 : Int32)), .val (.int (1 : Int32)), .val (.int (0 : Int32)), .val (.ref a153), .val (.int (0 : Int32)), .unset, .unset, .unset] [(.int (1 : Int32)), (.int (0 : Int32)), (.ref a153)]) _ _ _
        refine Go.iadd X154 hx (hb hby at_84) ?_
        show Go _ _ _ _ T154 (mkF m 85 #[.val (.int p0), .val (.long p1), .second, .val (.int p2), .val (.int (0 : Int32)), .val (.int (1 : Int32)), .val (.int (0 : Int32)), .val (.ref a153), .val (.int (0 : Int32)), .unset, .unset, .unset] [(.int (1 : Int32)), (.ref a153)]) _ _ _
        refine Go.lloadN X154 hx (hb hby at_85) rfl ?_
        show Go _ _ _ _ T154 (mkF m 86 #[.val (.int p0), .val (.long p1), .second, .val (.int p2), .val (.int (0 : Int32)), .val (.int (1 : Int32)), .val (.int (0 : Int32)), .val (.ref a153), .val (.int (0 : Int32)), .unset, .unset, .unset] [(.long p1), (.int (1 : Int32)), (.ref a153)]) _ _ _
        refine Go.l2i X154 hx (hb hby at_86) ?_
        show Go _ _ _ _ T154 (mkF m 87 #[.val (.int p0), .val (.long p1), .second, .val (.int p2), .val (.int (0 : Int32)), .val (.int (1 : Int32)), .val (.int (0 : Int32)), .val (.ref a153), .val (.int (0 : Int32)), .unset, .unset, .unset] [(.int ((p1).toInt32)), (.int (1 : Int32)), (.ref a153)]) _ _ _
        refine Go.iastore X154 hx hZ e154 A155 (by decide) (by decide) (hb hby at_87) ?_
        intro T156 h156 X156 e156 W156 A156
        have N156 := Fr.snoc X156 N154 g_a153
        have Z156 : n0 ≤ h156.size := by rw [Wr.size W156]; exact Z154
        have B156 : h0.size ≤ h156.size := by rw [Wr.size W156]; exact B154
        have A157 : Af Z h156 a153 k153 .int 3 (fun i => Value.int ((updI (updI (fun _ => (0 : Int32)) 0 (((p1 >>> (((32 : Int32)).toInt64 &&& 63))).toInt32)) 1 ((p1).toInt32)) i)) := Af.updI A156
        show Go _ _ _ _ T156 (mkF m 88 #[.val (.int p0), .val (.long p1), .second, .val (.int p2), .val (.int (0 : Int32)), .val (.int (1 : Int32)), .val (.int (0 : Int32)), .val (.ref a153), .val (.int (0 : Int32)), .unset, .unset, .unset] []) _ _ _
        refine Go.iload X156 hx (hb hby at_88) rfl ?_
        show Go _ _ _ _ T156 (mkF m 90 #[.val (.int p0), .val (.long p1), .second, .val (.int p2), .val (.int (0 : Int32)), .val (.int (1 : Int32)), .val (.int (0 : Int32)), .val (.ref a153), .val (.int (0 : Int32)), .unset, .unset, .unset] [(.int (0 : Int32))]) _ _ _
        refine Go.iconst X156 hx (hb hby at_90) ?_
        show Go _ _ _ _ T156 (mkF m 91 #[.val (.int p0), .val (.long p1), .second, .val (.int p2), .val (.int (0 : Int32)), .val (.int (1 : Int32)), .val (.int (0 : Int32)), .val (.ref a153), .val (.int (0 : Int32)), .unset, .unset, .unset] [(.int (2 : Int32)), (.int (0 : Int32))]) _ _ _
        refine Go.iadd X156 hx (hb hby at_91) ?_
        show Go _ _ _ _ T156 (mkF m 92 #[.val (.int p0), .val (.long p1), .second, .val (.int p2), .val (.int (0 : Int32)), .val (.int (1 : Int32)), .val (.int (0 : Int32)), .val (.ref a153), .val (.int (0 : Int32)), .unset, .unset, .unset] [(.int (2 : Int32))]) _ _ _
        refine Go.istore X156 hx (hb hby at_92) (l' := #[.val (.int p0), .val (.long p1), .second, .val (.int p2), .val (.int (0 : Int32)), .val (.int (1 : Int32)), .val (.int (0 : Int32)), .val (.ref a153), .val (.int (2 : Int32)), .unset, .unset, .unset]) rfl ?_
        show Go _ _ _ _ T156 (mkF m 94 #[.val (.int p0), .val (.long p1), .second, .val (.int p2), .val (.int (0 : Int32)), .val (.int (1 : Int32)), .val (.int (0 : Int32)), .val (.ref a153), .val (.int (2 : Int32)), .unset, .unset, .unset] []) _ _ _
        refine Go.newO X156 hx hZ hown (w1 hw) (w2 hw) (w3 hw) e156 (hb hby at_94) (by decide) (by decide) ?_
        intro T158 h158 a158 b158 X158 e158 E158 A158 D158
        have g_a158 : n0 ≤ a158 := by rw [b158]; exact Z156
        have y_a158 : h0.size ≤ a158 := by rw [b158]; exact B156
        have ne_a153_a158 : a153 ≠ a158 := by rw [b158]; exact Nat.ne_of_lt A157.lt
        have Z158 : n0 ≤ h158.size := Nat.le_trans Z156 E158.1
        have B158 : h0.size ≤ h158.size := Nat.le_trans B156 E158.1
        show Go _ _ _ _ T158 (mkF m 97 #[.val (.int p0), .val (.long p1), .second, .val (.int p2), .val (.int (0 : Int32)), .val (.int (1 : Int32)), .val (.int (0 : Int32)), .val (.ref a153), .val (.int (2 : Int32)), .unset, .unset, .unset] [(.ref a158)]) _ _ _
        refine Go.dup X158 hx (hb hby at_97) rfl ?_
        show Go _ _ _ _ T158 (mkF m 98 #[.val (.int p0), .val (.long p1), .second, .val (.int p2), .val (.int (0 : Int32)), .val (.int (1 : Int32)), .val (.int (0 : Int32)), .val (.ref a153), .val (.int (2 : Int32)), .unset, .unset, .unset] [(.ref a158), (.ref a158)]) _ _ _
        have F159 := (D158 (Or.inl (w12 hw)) (ty := (.array .byte)) (by decide))
        have F160 := (D158 (Or.inl (w14 hw)) (ty := .int) (by decide))
        refine Go.callI (W := 1) (a := a158) (argsL := []) (rest := [(.ref a158)]) X158 hx hZ hown rfl (w4 hw) (w5 hw) (w3 hw) (w6 hw) (by decide) (rm_init l Z a0 hw a158 h158 n0 Z158 A158 g_a158 F159 F160) e158 (lenOf pd_5 rfl) (hb hby at_98) (by rw [hml]; rfl) rfl (Nat.le_of_eq rfl) (by decide) (by decide) (by decide) (by decide) ?_
        intro v161 T161 L161 X161 q161
        obtain ⟨ab161, kb161, rfl, M161, K161, P161_0, P161_1, P161_2, P161_3, P161_4, P161_5, P161_6⟩ := q161
        have N161 := Fr.app N156 M161
        have Z161 : n0 ≤ T161.heap.size := Nat.le_trans Z158 K161.1
        have B161 : h0.size ≤ T161.heap.size := Nat.le_trans B158 K161.1
        have ne_a153_ab161 : a153 ≠ ab161 := Nat.ne_of_lt (Nat.lt_of_lt_of_le ((Af.ext E158 A157)).lt P161_2)
        have ne_a158_ab161 : a158 ≠ ab161 := Nat.ne_of_lt (Nat.lt_of_lt_of_le (A158).lt P161_2)
        show Go _ _ _ _ T161 (mkF m 101 #[.val (.int p0), .val (.long p1), .second, .val (.int p2), .val (.int (0 : Int32)), .val (.int (1 : Int32)), .val (.int (0 : Int32)), .val (.ref a153), .val (.int (2 : Int32)), .unset, .unset, .unset] [(.ref a158)]) _ _ _
        refine Go.astore X161 hx (hb hby at_101) rfl (l' := #[.val (.int p0), .val (.long p1), .second, .val (.int p2), .val (.int (0 : Int32)), .val (.int (1 : Int32)), .val (.int (0 : Int32)), .val (.ref a153), .val (.int (2 : Int32)), .val (.ref a158), .unset, .unset]) rfl ?_
        show Go _ _ _ _ T161 (mkF m 103 #[.val (.int p0), .val (.long p1), .second, .val (.int p2), .val (.int (0 : Int32)), .val (.int (1 : Int32)), .val (.int (0 : Int32)), .val (.ref a153), .val (.int (2 : Int32)), .val (.ref a158), .unset, .unset] []) _ _ _
        refine Go.iload X161 hx (hb hby at_103) rfl ?_
        show Go _ _ _ _ T161 (mkF m 105 #[.val (.int p0), .val (.long p1), .second, .val (.int p2), .val (.int (0 : Int32)), .val (.int (1 : Int32)), .val (.int (0 : Int32)), .val (.ref a153), .val (.int (2 : Int32)), .val (.ref a158), .unset, .unset] [(.int (0 : Int32))]) _ _ _
        refine Go.ifYes X161 hx (hb hby at_105) (XT.i0_eq_t (by decide)) (pc' := 131) (by decide) (by decide) ?_
        show Go _ _ _ _ T161 (mkF m 131 #[.val (.int p0), .val (.long p1), .second, .val (.int p2), .val (.int (0 : Int32)), .val (.int (1 : Int32)), .val (.int (0 : Int32)), .val (.ref a153), .val (.int (2 : Int32)), .val (.ref a158), .unset, .unset] []) _ _ _
        refine Go.iload X161 hx (hb hby at_131) rfl ?_
        show Go _ _ _ _ T161 (mkF m 133 #[.val (.int p0), .val (.long p1), .second, .val (.int p2), .val (.int (0 : Int32)), .val (.int (1 : Int32)), .val (.int (0 : Int32)), .val (.ref a153), .val (.int (2 : Int32)), .val (.ref a158), .unset, .unset] [(.int (0 : Int32))]) _ _ _
        refine Go.ifYes X161 hx (hb hby at_133) (XT.i0_eq_t (by decide)) (pc' := 142) (by decide) (by decide) ?_
        show Go _ _ _ _ T161 (mkF m 142 #[.val (.int p0), .val (.long p1), .second, .val (.int p2), .val (.int (0 : Int32)), .val (.int (1 : Int32)), .val (.int (0 : Int32)), .val (.ref a153), .val (.int (2 : Int32)), .val (.ref a158), .unset, .unset] []) _ _ _
        refine Go.iload X161 hx (hb hby at_142) rfl ?_
        show Go _ _ _ _ T161 (mkF m 144 #[.val (.int p0), .val (.long p1), .second, .val (.int p2), .val (.int (0 : Int32)), .val (.int (1 : Int32)), .val (.int (0 : Int32)), .val (.ref a153), .val (.int (2 : Int32)), .val (.ref a158), .unset, .unset] [(.int (1 : Int32))]) _ _ _
        refine Go.ifNo X161 hx (hb hby at_144) (XT.i0_eq_f (by decide)) ?_
        show Go _ _ _ _ T161 (mkF m 147 #[.val (.int p0), .val (.long p1), .second, .val (.int p2), .val (.int (0 : Int32)), .val (.int (1 : Int32)), .val (.int (0 : Int32)), .val (.ref a153), .val (.int (2 : Int32)), .val (.ref a158), .unset, .unset] []) _ _ _
        refine Go.aload X161 hx (hb hby at_147) rfl rfl ?_
        show Go _ _ _ _ T161 (mkF m 149 #[.val (.int p0), .val (.long p1), .second, .val (.int p2), .val (.int (0 : Int32)), .val (.int (1 : Int32)), .val (.int (0 : Int32)), .val (.ref a153), .val (.int (2 : Int32)), .val (.ref a158), .unset, .unset] [(.ref a158)]) _ _ _
        refine Go.lloadN X161 hx (hb hby at_149) rfl ?_
        show Go _ _ _ _ T161 (mkF m 150 #[.val (.int p0), .val (.long p1), .second, .val (.int p2), .val (.int (0 : Int32)), .val (.int (1 : Int32)), .val (.int (0 : Int32)), .val (.ref a153), .val (.int (2 : Int32)), .val (.ref a158), .unset, .unset] [(.long p1), (.ref a158)]) _ _ _
        refine Go.callV (W := 0) (argsL := [(.long p1)]) (rest := []) X161 hx hZ hown (w58 hw) (w59 hw) (w61 hw) (w60 hw) (w3 hw) (w62 hw) (notFace_of_selects (args := #[]) (mvT hZ (w61 hw))) (by decide) P161_0 (rm_wl4 l Z a0 hw a158 p1 ab161 kb161 (fun _ => (0 : Int32)) T161.heap n0 Z161 P161_0 g_a158 P161_1 P161_3 P161_4 P161_6 P161_5) rfl (lenOf pd_8 rfl) (hb hby at_150) (by rw [hml]; rfl) rfl (Nat.le_of_eq rfl) (by decide) (by decide) (by decide) (by decide) ?_
        intro v162 T162 L162 X162 q162
        obtain ⟨rfl, M162, K162, P162_0, P162_1, P162_2, P162_3⟩ := q162
        have N162 := Fr.app N161 M162
        have Z162 : n0 ≤ T162.heap.size := Nat.le_trans Z161 K162.1
        have B162 : h0.size ≤ T162.heap.size := Nat.le_trans B161 K162.1
        show Go _ _ _ _ T162 (mkF m 153 #[.val (.int p0), .val (.long p1), .second, .val (.int p2), .val (.int (0 : Int32)), .val (.int (1 : Int32)), .val (.int (0 : Int32)), .val (.ref a153), .val (.int (2 : Int32)), .val (.ref a158), .unset, .unset] []) _ _ _
        refine Go.aload X162 hx (hb hby at_153) rfl rfl ?_
        show Go _ _ _ _ T162 (mkF m 155 #[.val (.int p0), .val (.long p1), .second, .val (.int p2), .val (.int (0 : Int32)), .val (.int (1 : Int32)), .val (.int (0 : Int32)), .val (.ref a153), .val (.int (2 : Int32)), .val (.ref a158), .unset, .unset] [(.ref a158)]) _ _ _
        have F163 := (Af.keep (Af.keep (Af.ext E158 A157) K161 (ninS ne_a153_a158 nin0)) K162 (ninS ne_a153_a158 (ninS ne_a153_ab161 nin0)))
        refine Go.callV (W := 0) (argsL := []) (rest := []) X162 hx hZ hown (w28 hw) (w29 hw) (w31 hw) (w30 hw) (w3 hw) (w32 hw) (notFace_of_selects (args := #[]) (mvT hZ (w31 hw))) (by decide) P162_0 (rm_tb2 l Z a0 hw a158 ab161 kb161 (put4 (put4 (fun _ => (0 : Int32)) 4 ((XT.ushrL p1 (32 : Int32)).toInt32)) 8 ((p1).toInt32)) T162.heap n0 Z162 (okB_put (okB_put okB0)) P162_1 P162_2 P162_3) rfl (lenOf pd_6 rfl) (hb hby at_155) (by rw [hml]; rfl) rfl (Nat.le_of_eq rfl) (by decide) (by decide) (by decide) (by decide) ?_
        intro v164 T164 L164 X164 q164
        obtain ⟨r164, kr164, rfl, M164, K164, P164_0, P164_1, P164_2⟩ := q164
        have N164 := Fr.app N162 M164
        have Z164 : n0 ≤ T164.heap.size := Nat.le_trans Z162 K164.1
        have B164 : h0.size ≤ T164.heap.size := Nat.le_trans B162 K164.1
        have ne_a153_r164 : a153 ≠ r164 := Nat.ne_of_lt (Nat.lt_of_lt_of_le (F163).lt P164_1)
        have ne_a158_r164 : a158 ≠ r164 := Nat.ne_of_lt (Nat.lt_of_lt_of_le (P162_0).lt P164_1)
        have ne_ab161_r164 : ab161 ≠ r164 := Nat.ne_of_lt (Nat.lt_of_lt_of_le (P162_3).lt P164_1)
        show Go _ _ _ _ T164 (mkF m 158 #[.val (.int p0), .val (.long p1), .second, .val (.int p2), .val (.int (0 : Int32)), .val (.int (1 : Int32)), .val (.int (0 : Int32)), .val (.ref a153), .val (.int (2 : Int32)), .val (.ref a158), .unset, .unset] [(.ref r164)]) _ _ _
        refine Go.astore X164 hx (hb hby at_158) rfl (l' := #[.val (.int p0), .val (.long p1), .second, .val (.int p2), .val (.int (0 : Int32)), .val (.int (1 : Int32)), .val (.int (0 : Int32)), .val (.ref a153), .val (.int (2 : Int32)), .val (.ref a158), .val (.ref r164), .unset]) rfl ?_
        show Go _ _ _ _ T164 (mkF m 160 #[.val (.int p0), .val (.long p1), .second, .val (.int p2), .val (.int (0 : Int32)), .val (.int (1 : Int32)), .val (.int (0 : Int32)), .val (.ref a153), .val (.int (2 : Int32)), .val (.ref a158), .val (.ref r164), .unset] []) _ _ _
        refine Go.aload X164 hx (hb hby at_160) rfl rfl ?_
        show Go _ _ _ _ T164 (mkF m 162 #[.val (.int p0), .val (.long p1), .second, .val (.int p2), .val (.int (0 : Int32)), .val (.int (1 : Int32)), .val (.int (0 : Int32)), .val (.ref a153), .val (.int (2 : Int32)), .val (.ref a158), .val (.ref r164), .unset] [(.ref r164)]) _ _ _
        refine Go.aload X164 hx (hb hby at_162) rfl rfl ?_
        show Go _ _ _ _ T164 (mkF m 164 #[.val (.int p0), .val (.long p1), .second, .val (.int p2), .val (.int (0 : Int32)), .val (.int (1 : Int32)), .val (.int (0 : Int32)), .val (.ref a153), .val (.int (2 : Int32)), .val (.ref a158), .val (.ref r164), .unset] [(.ref a153), (.ref r164)]) _ _ _
        refine Go.iload X164 hx (hb hby at_164) rfl ?_
        show Go _ _ _ _ T164 (mkF m 166 #[.val (.int p0), .val (.long p1), .second, .val (.int p2), .val (.int (0 : Int32)), .val (.int (1 : Int32)), .val (.int (0 : Int32)), .val (.ref a153), .val (.int (2 : Int32)), .val (.ref a158), .val (.ref r164), .unset] [(.int (2 : Int32)), (.ref a153), (.ref r164)]) _ _ _
        refine Go.callS (W := 0) (argsL := [(.ref r164), (.ref a153), (.int (2 : Int32))]) (rest := []) X164 hx hZ hown (w51 hw) (w52 hw) (w53 hw) (w54 hw) (by decide) (rm_ma2 l Z a0 hw r164 a153 kr164 (fun i => (put4 (put4 (fun _ => (0 : Int32)) 4 ((XT.ushrL p1 (32 : Int32)).toInt32)) 8 ((p1).toInt32)) (i + 4)) k153 (updI (updI (fun _ => (0 : Int32)) 0 (((p1 >>> (((32 : Int32)).toInt64 &&& 63))).toInt32)) 1 ((p1).toInt32)) T164.heap n0 Z164 P164_2 (Af.keep F163 K164 nin0) ((unit_eq _).trans (hi_eq p1)) (unit_eq ((p1).toInt32))) rfl (lenOf pd_7 rfl) (hb hby at_166) (by rw [hml]; rfl) rfl (Nat.le_of_eq rfl) (by decide) (by decide) (by decide) (by decide) ?_
        intro v165 T165 L165 X165 q165
        obtain ⟨rfl, M165, e165⟩ := q165
        have N165 := Fr.app N164 M165
        show Go _ _ _ _ T165 (mkF m 169 #[.val (.int p0), .val (.long p1), .second, .val (.int p2), .val (.int (0 : Int32)), .val (.int (1 : Int32)), .val (.int (0 : Int32)), .val (.ref a153), .val (.int (2 : Int32)), .val (.ref a158), .val (.ref r164), .unset] [(.int (1 : Int32))]) _ _ _
        refine Go.ifYes X165 hx (hb hby at_169) (XT.i0_ne_t (by decide)) (pc' := 174) (by decide) (by decide) ?_
        show Go _ _ _ _ T165 (mkF m 174 #[.val (.int p0), .val (.long p1), .second, .val (.int p2), .val (.int (0 : Int32)), .val (.int (1 : Int32)), .val (.int (0 : Int32)), .val (.ref a153), .val (.int (2 : Int32)), .val (.ref a158), .val (.ref r164), .unset] []) _ _ _
        refine Go.aload X165 hx (hb hby at_174) rfl rfl ?_
        show Go _ _ _ _ T165 (mkF m 176 #[.val (.int p0), .val (.long p1), .second, .val (.int p2), .val (.int (0 : Int32)), .val (.int (1 : Int32)), .val (.int (0 : Int32)), .val (.ref a153), .val (.int (2 : Int32)), .val (.ref a158), .val (.ref r164), .unset] [(.ref r164)]) _ _ _
        refine Go.alen X165 hx hZ e165 P164_2 (hb hby at_176) ?_
        show Go _ _ _ _ T165 (mkF m 177 #[.val (.int p0), .val (.long p1), .second, .val (.int p2), .val (.int (0 : Int32)), .val (.int (1 : Int32)), .val (.int (0 : Int32)), .val (.ref a153), .val (.int (2 : Int32)), .val (.ref a158), .val (.ref r164), .unset] [(.int (8 : Int32))]) _ _ _
        refine Go.ifNo X165 hx (hb hby at_177) (XT.i0_le_f (by decide)) ?_
        show Go _ _ _ _ T165 (mkF m 180 #[.val (.int p0), .val (.long p1), .second, .val (.int p2), .val (.int (0 : Int32)), .val (.int (1 : Int32)), .val (.int (0 : Int32)), .val (.ref a153), .val (.int (2 : Int32)), .val (.ref a158), .val (.ref r164), .unset] []) _ _ _
        refine Go.aload X165 hx (hb hby at_180) rfl rfl ?_
        show Go _ _ _ _ T165 (mkF m 182 #[.val (.int p0), .val (.long p1), .second, .val (.int p2), .val (.int (0 : Int32)), .val (.int (1 : Int32)), .val (.int (0 : Int32)), .val (.ref a153), .val (.int (2 : Int32)), .val (.ref a158), .val (.ref r164), .unset] [(.ref r164)]) _ _ _
        refine Go.iconst X165 hx (hb hby at_182) ?_
        show Go _ _ _ _ T165 (mkF m 183 #[.val (.int p0), .val (.long p1), .second, .val (.int p2), .val (.int (0 : Int32)), .val (.int (1 : Int32)), .val (.int (0 : Int32)), .val (.ref a153), .val (.int (2 : Int32)), .val (.ref a158), .val (.ref r164), .unset] [(.int (0 : Int32)), (.ref r164)]) _ _ _
        refine Go.aload X165 hx (hb hby at_183) rfl rfl ?_
        show Go _ _ _ _ T165 (mkF m 185 #[.val (.int p0), .val (.long p1), .second, .val (.int p2), .val (.int (0 : Int32)), .val (.int (1 : Int32)), .val (.int (0 : Int32)), .val (.ref a153), .val (.int (2 : Int32)), .val (.ref a158), .val (.ref r164), .unset] [(.ref r164), (.int (0 : Int32)), (.ref r164)]) _ _ _
        refine Go.iconst X165 hx (hb hby at_185) ?_
        show Go _ _ _ _ T165 (mkF m 186 #[.val (.int p0), .val (.long p1), .second, .val (.int p2), .val (.int (0 : Int32)), .val (.int (1 : Int32)), .val (.int (0 : Int32)), .val (.ref a153), .val (.int (2 : Int32)), .val (.ref a158), .val (.ref r164), .unset] [(.int (0 : Int32)), (.ref r164), (.int (0 : Int32)), (.ref r164)]) _ _ _
        refine Go.baloadB X165 hx hZ e165 P164_2 (by decide) (by decide) (hb hby at_186) ?_
        show Go _ _ _ _ T165 (mkF m 187 #[.val (.int p0), .val (.long p1), .second, .val (.int p2), .val (.int (0 : Int32)), .val (.int (1 : Int32)), .val (.int (0 : Int32)), .val (.ref a153), .val (.int (2 : Int32)), .val (.ref a158), .val (.ref r164), .unset] [(.int ((fun i => (put4 (put4 (fun _ => (0 : Int32)) 4 ((XT.ushrL p1 (32 : Int32)).toInt32)) 8 ((p1).toInt32)) (i + 4)) 0)), (.int (0 : Int32)), (.ref r164)]) _ _ _
        refine Go.iconst X165 hx (hb hby at_187) ?_
        show Go _ _ _ _ T165 (mkF m 188 #[.val (.int p0), .val (.long p1), .second, .val (.int p2), .val (.int (0 : Int32)), .val (.int (1 : Int32)), .val (.int (0 : Int32)), .val (.ref a153), .val (.int (2 : Int32)), .val (.ref a158), .val (.ref r164), .unset] [(.int (1 : Int32)), (.int ((fun i => (put4 (put4 (fun _ => (0 : Int32)) 4 ((XT.ushrL p1 (32 : Int32)).toInt32)) 8 ((p1).toInt32)) (i + 4)) 0)), (.int (0 : Int32)), (.ref r164)]) _ _ _
        refine Go.ixor X165 hx (hb hby at_188) ?_
        show Go _ _ _ _ T165 (mkF m 189 #[.val (.int p0), .val (.long p1), .second, .val (.int p2), .val (.int (0 : Int32)), .val (.int (1 : Int32)), .val (.int (0 : Int32)), .val (.ref a153), .val (.int (2 : Int32)), .val (.ref a158), .val (.ref r164), .unset] [(.int (((fun i => (put4 (put4 (fun _ => (0 : Int32)) 4 ((XT.ushrL p1 (32 : Int32)).toInt32)) 8 ((p1).toInt32)) (i + 4)) 0) ^^^ (1 : Int32))), (.int (0 : Int32)), (.ref r164)]) _ _ _
        refine Go.i2b X165 hx (hb hby at_189) ?_
        show Go _ _ _ _ T165 (mkF m 190 #[.val (.int p0), .val (.long p1), .second, .val (.int p2), .val (.int (0 : Int32)), .val (.int (1 : Int32)), .val (.int (0 : Int32)), .val (.ref a153), .val (.int (2 : Int32)), .val (.ref a158), .val (.ref r164), .unset] [(.int (((((fun i => (put4 (put4 (fun _ => (0 : Int32)) 4 ((XT.ushrL p1 (32 : Int32)).toInt32)) 8 ((p1).toInt32)) (i + 4)) 0) ^^^ (1 : Int32))).toInt8.toInt32)), (.int (0 : Int32)), (.ref r164)]) _ _ _
        refine Go.bastoreB X165 hx hZ e165 P164_2 (by decide) (by decide) (hb hby at_190) ?_
        intro T166 h166 X166 e166 W166 A166
        have N166 := Fr.snoc X166 N165 P164_0
        have Z166 : n0 ≤ h166.size := by rw [Wr.size W166]; exact Z164
        have B166 : h0.size ≤ h166.size := by rw [Wr.size W166]; exact B164
        have A167 : Af Z h166 r164 kr164 .byte 8 (fun i => Value.int ((updI (fun i => (put4 (put4 (fun _ => (0 : Int32)) 4 ((XT.ushrL p1 (32 : Int32)).toInt32)) 8 ((p1).toInt32)) (i + 4)) 0 (((((((fun i => (put4 (put4 (fun _ => (0 : Int32)) 4 ((XT.ushrL p1 (32 : Int32)).toInt32)) 8 ((p1).toInt32)) (i + 4)) 0) ^^^ (1 : Int32))).toInt8.toInt32)).toInt8.toInt32)) i)) := Af.updI A166
        show Go _ _ _ _ T166 (mkF m 191 #[.val (.int p0), .val (.long p1), .second, .val (.int p2), .val (.int (0 : Int32)), .val (.int (1 : Int32)), .val (.int (0 : Int32)), .val (.ref a153), .val (.int (2 : Int32)), .val (.ref a158), .val (.ref r164), .unset] []) _ _ _
        refine Go.aload X166 hx (hb hby at_191) rfl rfl ?_
        show Go _ _ _ _ T166 (mkF m 193 #[.val (.int p0), .val (.long p1), .second, .val (.int p2), .val (.int (0 : Int32)), .val (.int (1 : Int32)), .val (.int (0 : Int32)), .val (.ref a153), .val (.int (2 : Int32)), .val (.ref a158), .val (.ref r164), .unset] [(.ref a158)]) _ _ _
        have F168 := (Af.other W166 (Af.keep F163 K164 nin0) ne_a153_r164)
        have F169 := (Af.other W166 (Af.keep P162_3 K164 nin0) ne_ab161_r164)
        have F170 := (Fld.other W166 (Fld.keep P162_1 K164 nin0) (Or.inl ne_a158_r164))
        have F171 := (Fld.other W166 (Fld.keep P162_2 K164 nin0) (Or.inl ne_a158_r164))
        refine Go.callV (W := 0) (argsL := []) (rest := []) X166 hx hZ hown (w28 hw) (w29 hw) (w31 hw) (w30 hw) (w3 hw) (w32 hw) (notFace_of_selects (args := #[]) (mvT hZ (w31 hw))) (by decide) (Exa.wr W166 (Exa.keep P162_0 K164)) (rm_tb2 l Z a0 hw a158 ab161 kb161 (put4 (put4 (fun _ => (0 : Int32)) 4 ((XT.ushrL p1 (32 : Int32)).toInt32)) 8 ((p1).toInt32)) h166 n0 Z166 (okB_put (okB_put okB0)) F170 F171 F169) e166 (lenOf pd_6 rfl) (hb hby at_193) (by rw [hml]; rfl) rfl (Nat.le_of_eq rfl) (by decide) (by decide) (by decide) (by decide) ?_
        intro v172 T172 L172 X172 q172
        obtain ⟨r172, kr172, rfl, M172, K172, P172_0, P172_1, P172_2⟩ := q172
        have N172 := Fr.app N166 M172
        have Z172 : n0 ≤ T172.heap.size := Nat.le_trans Z166 K172.1
        have B172 : h0.size ≤ T172.heap.size := Nat.le_trans B166 K172.1
        have ne_a153_r172 : a153 ≠ r172 := Nat.ne_of_lt (Nat.lt_of_lt_of_le (F168).lt P172_1)
        have ne_a158_r172 : a158 ≠ r172 := Nat.ne_of_lt (Nat.lt_of_lt_of_le ((Exa.wr W166 (Exa.keep P162_0 K164))).lt P172_1)
        have ne_ab161_r172 : ab161 ≠ r172 := Nat.ne_of_lt (Nat.lt_of_lt_of_le (F169).lt P172_1)
        have ne_r164_r172 : r164 ≠ r172 := Nat.ne_of_lt (Nat.lt_of_lt_of_le (A167).lt P172_1)
        show Go _ _ _ _ T172 (mkF m 196 #[.val (.int p0), .val (.long p1), .second, .val (.int p2), .val (.int (0 : Int32)), .val (.int (1 : Int32)), .val (.int (0 : Int32)), .val (.ref a153), .val (.int (2 : Int32)), .val (.ref a158), .val (.ref r164), .unset] [(.ref r172)]) _ _ _
        refine Go.astore X172 hx (hb hby at_196) rfl (l' := #[.val (.int p0), .val (.long p1), .second, .val (.int p2), .val (.int (0 : Int32)), .val (.int (1 : Int32)), .val (.int (0 : Int32)), .val (.ref a153), .val (.int (2 : Int32)), .val (.ref a158), .val (.ref r164), .val (.ref r172)]) rfl ?_
        show Go _ _ _ _ T172 (mkF m 198 #[.val (.int p0), .val (.long p1), .second, .val (.int p2), .val (.int (0 : Int32)), .val (.int (1 : Int32)), .val (.int (0 : Int32)), .val (.ref a153), .val (.int (2 : Int32)), .val (.ref a158), .val (.ref r164), .val (.ref r172)] []) _ _ _
        refine Go.aload X172 hx (hb hby at_198) rfl rfl ?_
        show Go _ _ _ _ T172 (mkF m 200 #[.val (.int p0), .val (.long p1), .second, .val (.int p2), .val (.int (0 : Int32)), .val (.int (1 : Int32)), .val (.int (0 : Int32)), .val (.ref a153), .val (.int (2 : Int32)), .val (.ref a158), .val (.ref r164), .val (.ref r172)] [(.ref r172)]) _ _ _
        refine Go.aload X172 hx (hb hby at_200) rfl rfl ?_
        show Go _ _ _ _ T172 (mkF m 202 #[.val (.int p0), .val (.long p1), .second, .val (.int p2), .val (.int (0 : Int32)), .val (.int (1 : Int32)), .val (.int (0 : Int32)), .val (.ref a153), .val (.int (2 : Int32)), .val (.ref a158), .val (.ref r164), .val (.ref r172)] [(.ref a153), (.ref r172)]) _ _ _
        refine Go.iload X172 hx (hb hby at_202) rfl ?_
        show Go _ _ _ _ T172 (mkF m 204 #[.val (.int p0), .val (.long p1), .second, .val (.int p2), .val (.int (0 : Int32)), .val (.int (1 : Int32)), .val (.int (0 : Int32)), .val (.ref a153), .val (.int (2 : Int32)), .val (.ref a158), .val (.ref r164), .val (.ref r172)] [(.int (2 : Int32)), (.ref a153), (.ref r172)]) _ _ _
        refine Go.callS (W := 0) (argsL := [(.ref r172), (.ref a153), (.int (2 : Int32))]) (rest := []) X172 hx hZ hown (w51 hw) (w52 hw) (w53 hw) (w54 hw) (by decide) (rm_ma2 l Z a0 hw r172 a153 kr172 (fun i => (put4 (put4 (fun _ => (0 : Int32)) 4 ((XT.ushrL p1 (32 : Int32)).toInt32)) 8 ((p1).toInt32)) (i + 4)) k153 (updI (updI (fun _ => (0 : Int32)) 0 (((p1 >>> (((32 : Int32)).toInt64 &&& 63))).toInt32)) 1 ((p1).toInt32)) T172.heap n0 Z172 P172_2 (Af.keep F168 K172 nin0) ((unit_eq _).trans (hi_eq p1)) (unit_eq ((p1).toInt32))) rfl (lenOf pd_7 rfl) (hb hby at_204) (by rw [hml]; rfl) rfl (Nat.le_of_eq rfl) (by decide) (by decide) (by decide) (by decide) ?_
        intro v173 T173 L173 X173 q173
        obtain ⟨rfl, M173, e173⟩ := q173
        have N173 := Fr.app N172 M173
        show Go _ _ _ _ T173 (mkF m 207 #[.val (.int p0), .val (.long p1), .second, .val (.int p2), .val (.int (0 : Int32)), .val (.int (1 : Int32)), .val (.int (0 : Int32)), .val (.ref a153), .val (.int (2 : Int32)), .val (.ref a158), .val (.ref r164), .val (.ref r172)] [(.int (1 : Int32))]) _ _ _
        refine Go.retZ X173 hx hlk hret (by decide) (hb hby at_207) (by decide) (by decide) ?_
        rw [e173]
        exact ⟨rfl, N173⟩
      · refine Go.ifNo X0 hx (hb hby at_29) (XT.i0_eq_f c152) ?_
        show Go _ _ _ _ s₁ (mkF m 32 #[.val (.int p0), .val (.long p1), .second, .val (.int p2), .val (.int (0 : Int32)), .val (.int (1 : Int32)), .unset, .unset, .unset, .unset, .unset, .unset] []) _ _ _
        refine Go.iconst X0 hx (hb hby at_32) ?_
        show Go _ _ _ _ s₁ (mkF m 33 #[.val (.int p0), .val (.long p1), .second, .val (.int p2), .val (.int (0 : Int32)), .val (.int (1 : Int32)), .unset, .unset, .unset, .unset, .unset, .unset] [(.int (1 : Int32))]) _ _ _
        refine Go.goto X0 hx (hb hby at_33) (pc' := 37) (by decide) (by decide) ?_
        show Go _ _ _ _ s₁ (mkF m 37 #[.val (.int p0), .val (.long p1), .second, .val (.int p2), .val (.int (0 : Int32)), .val (.int (1 : Int32)), .unset, .unset, .unset, .unset, .unset, .unset] [(.int (1 : Int32))]) _ _ _
        refine Go.istore X0 hx (hb hby at_37) (l' := #[.val (.int p0), .val (.long p1), .second, .val (.int p2), .val (.int (0 : Int32)), .val (.int (1 : Int32)), .val (.int (1 : Int32)), .unset, .unset, .unset, .unset, .unset]) rfl ?_
        show Go _ _ _ _ s₁ (mkF m 39 #[.val (.int p0), .val (.long p1), .second, .val (.int p2), .val (.int (0 : Int32)), .val (.int (1 : Int32)), .val (.int (1 : Int32)), .unset, .unset, .unset, .unset, .unset] []) _ _ _
        refine Go.iconst X0 hx (hb hby at_39) ?_
        show Go _ _ _ _ s₁ (mkF m 40 #[.val (.int p0), .val (.long p1), .second, .val (.int p2), .val (.int (0 : Int32)), .val (.int (1 : Int32)), .val (.int (1 : Int32)), .unset, .unset, .unset, .unset, .unset] [(.int (3 : Int32))]) _ _ _
        refine Go.newarray (aty := .int) (cap := 3) X0 hx hZ (w0 hw) e0 (hb hby at_40) (by decide) (by decide) (by decide) (by decide) (by decide) ?_
        intro T174 h174 a174 k174 b174 X174 e174 E174 A174
        have g_a174 : n0 ≤ a174 := by rw [b174]; exact Z0
        have y_a174 : h0.size ≤ a174 := by rw [b174]; exact (Nat.le_refl _)
        have Z174 : n0 ≤ h174.size := Nat.le_trans Z0 E174.1
        have B174 : h0.size ≤ h174.size := Nat.le_trans (Nat.le_refl _) E174.1
        show Go _ _ _ _ T174 (mkF m 42 #[.val (.int p0), .val (.long p1), .second, .val (.int p2), .val (.int (0 : Int32)), .val (.int (1 : Int32)), .val (.int (1 : Int32)), .unset, .unset, .unset, .unset, .unset] [(.ref a174)]) _ _ _
        refine Go.astore X174 hx (hb hby at_42) rfl (l' := #[.val (.int p0), .val (.long p1), .second, .val (.int p2), .val (.int (0 : Int32)), .val (.int (1 : Int32)), .val (.int (1 : Int32)), .val (.ref a174), .unset, .unset, .unset, .unset]) rfl ?_
        show Go _ _ _ _ T174 (mkF m 44 #[.val (.int p0), .val (.long p1), .second, .val (.int p2), .val (.int (0 : Int32)), .val (.int (1 : Int32)), .val (.int (1 : Int32)), .val (.ref a174), .unset, .unset, .unset, .unset] []) _ _ _
        refine Go.iconst X174 hx (hb hby at_44) ?_
        show Go _ _ _ _ T174 (mkF m 45 #[.val (.int p0), .val (.long p1), .second, .val (.int p2), .val (.int (0 : Int32)), .val (.int (1 : Int32)), .val (.int (1 : Int32)), .val (.ref a174), .unset, .unset, .unset, .unset] [(.int (0 : Int32))]) _ _ _
        refine Go.istore X174 hx (hb hby at_45) (l' := #[.val (.int p0), .val (.long p1), .second, .val (.int p2), .val (.int (0 : Int32)), .val (.int (1 : Int32)), .val (.int (1 : Int32)), .val (.ref a174), .val (.int (0 : Int32)), .unset, .unset, .unset]) rfl ?_
        show Go _ _ _ _ T174 (mkF m 47 #[.val (.int p0), .val (.long p1), .second, .val (.int p2), .val (.int (0 : Int32)), .val (.int (1 : Int32)), .val (.int (1 : Int32)), .val (.ref a174), .val (.int (0 : Int32)), .unset, .unset, .unset] []) _ _ _
        refine Go.iload X174 hx (hb hby at_47) rfl ?_
        show Go _ _ _ _ T174 (mkF m 49 #[.val (.int p0), .val (.long p1), .second, .val (.int p2), .val (.int (0 : Int32)), .val (.int (1 : Int32)), .val (.int (1 : Int32)), .val (.ref a174), .val (.int (0 : Int32)), .unset, .unset, .unset] [(.int (0 : Int32))]) _ _ _
        refine Go.ifYes X174 hx (hb hby at_49) (XT.i0_eq_t (by decide)) (pc' := 64) (by decide) (by decide) ?_
        show Go _ _ _ _ T174 (mkF m 64 #[.val (.int p0), .val (.long p1), .second, .val (.int p2), .val (.int (0 : Int32)), .val (.int (1 : Int32)), .val (.int (1 : Int32)), .val (.ref a174), .val (.int (0 : Int32)), .unset, .unset, .unset] []) _ _ _
        refine Go.iload X174 hx (hb hby at_64) rfl ?_
        show Go _ _ _ _ T174 (mkF m 66 #[.val (.int p0), .val (.long p1), .second, .val (.int p2), .val (.int (0 : Int32)), .val (.int (1 : Int32)), .val (.int (1 : Int32)), .val (.ref a174), .val (.int (0 : Int32)), .unset, .unset, .unset] [(.int (1 : Int32))]) _ _ _
        refine Go.ifNo X174 hx (hb hby at_66) (XT.i0_eq_f (by decide)) ?_
        show Go _ _ _ _ T174 (mkF m 69 #[.val (.int p0), .val (.long p1), .second, .val (.int p2), .val (.int (0 : Int32)), .val (.int (1 : Int32)), .val (.int (1 : Int32)), .val (.ref a174), .val (.int (0 : Int32)), .unset, .unset, .unset] []) _ _ _
        refine Go.aload X174 hx (hb hby at_69) rfl rfl ?_
        show Go _ _ _ _ T174 (mkF m 71 #[.val (.int p0), .val (.long p1), .second, .val (.int p2), .val (.int (0 : Int32)), .val (.int (1 : Int32)), .val (.int (1 : Int32)), .val (.ref a174), .val (.int (0 : Int32)), .unset, .unset, .unset] [(.ref a174)]) _ _ _
        refine Go.iload X174 hx (hb hby at_71) rfl ?_
        show Go _ _ _ _ T174 (mkF m 73 #[.val (.int p0), .val (.long p1), .second, .val (.int p2), .val (.int (0 : Int32)), .val (.int (1 : Int32)), .val (.int (1 : Int32)), .val (.ref a174), .val (.int (0 : Int32)), .unset, .unset, .unset] [(.int (0 : Int32)), (.ref a174)]) _ _ _
        refine Go.lloadN X174 hx (hb hby at_73) rfl ?_
        show Go _ _ _ _ T174 (mkF m 74 #[.val (.int p0), .val (.long p1), .second, .val (.int p2), .val (.int (0 : Int32)), .val (.int (1 : Int32)), .val (.int (1 : Int32)), .val (.ref a174), .val (.int (0 : Int32)), .unset, .unset, .unset] [(.long p1), (.int (0 : Int32)), (.ref a174)]) _ _ _
        refine Go.bipush X174 hx (hb hby at_74) ?_
        show Go _ _ _ _ T174 (mkF m 76 #[.val (.int p0), .val (.long p1), .second, .val (.int p2), .val (.int (0 : Int32)), .val (.int (1 : Int32)), .val (.int (1 : Int32)), .val (.ref a174), .val (.int (0 : Int32)), .unset, .unset, .unset] [(.int (32 : Int32)), (.long p1), (.int (0 : Int32)), (.ref a174)]) _ _ _
        refine Go.lshr X174 hx (hb hby at_76) ?_
        show Go _ _ _ _ T174 (mkF m 77 #[.val (.int p0), .val (.long p1), .second, .val (.int p2), .val (.int (0 : Int32)), .val (.int (1 : Int32)), .val (.int (1 : Int32)), .val (.ref a174), .val (.int (0 : Int32)), .unset, .unset, .unset] [(.long (p1 >>> (((32 : Int32)).toInt64 &&& 63))), (.int (0 : Int32)), (.ref a174)]) _ _ _
        refine Go.l2i X174 hx (hb hby at_77) ?_
        show Go _ _ _ _ T174 (mkF m 78 #[.val (.int p0), .val (.long p1), .second, .val (.int p2), .val (.int (0 : Int32)), .val (.int (1 : Int32)), .val (.int (1 : Int32)), .val (.ref a174), .val (.int (0 : Int32)), .unset, .unset, .unset] [(.int (((p1 >>> (((32 : Int32)).toInt64 &&& 63))).toInt32)), (.int (0 : Int32)), (.ref a174)]) _ _ _
        refine Go.iastore X174 hx hZ e174 A174 (by decide) (by decide) (hb hby at_78) ?_
        intro T175 h175 X175 e175 W175 A175
        have N175 := Fr.snoc X175 N0 g_a174
        have Z175 : n0 ≤ h175.size := by rw [Wr.size W175]; exact Z174
        have B175 : h0.size ≤ h175.size := by rw [Wr.size W175]; exact B174
        have A176 : Af Z h175 a174 k174 .int 3 (fun i => Value.int ((updI (fun _ => (0 : Int32)) 0 (((p1 >>> (((32 : Int32)).toInt64 &&& 63))).toInt32)) i)) := Af.updI A175
        show Go _ _ _ _ T175 (mkF m 79 #[.val (.int p0), .val (.long p1), .second, .val (.int p2), .val (.int (0 : Int32)), .val (.int (1 : Int32)), .val (.int (1 : Int32)), .val (.ref a174), .val (.int (0 : Int32)), .unset, .unset, .unset] []) _ _ _
        refine Go.aload X175 hx (hb hby at_79) rfl rfl ?_
        show Go _ _ _ _ T175 (mkF m 81 #[.val (.int p0), .val (.long p1), .second, .val (.int p2), .val (.int (0 : Int32)), .val (.int (1 : Int32)), .val (.int (1 : Int32)), .val (.ref a174), .val (.int (0 : Int32)), .unset, .unset, .unset] [(.ref a174)]) _ _ _
        refine Go.iload X175 hx (hb hby at_81) rfl ?_
        show Go _ _ _ _ T175 (mkF m 83 #[.val (.int p0), .val (.long p1), .second, .val (.int p2), .val (.int (0 : Int32)), .val (.int (1 : Int32)), .val (.int (1 : Int32)), .val (.ref a174), .val (.int (0 : Int32)), .unset, .unset, .unset] [(.int (0 : Int32)), (.ref a174)]) _ _ _
        refine Go.iconst X175 hx (hb hby at_83) ?_
        show Go _ _ _ _ T175 (mkF m 84 #[.val (.int p0), .val (.long p1), .second, .val (.int p2), .val (.int (0 : Int32)), .val (.int (1 : Int32)), .val (.int (1 : Int32)), .val (.ref a174), .val (.int (0 : Int32)), .unset, .unset, .unset] [(.int (1 : Int32)), (.int (0 : Int32)), (.ref a174)]) _ _ _
        refine Go.iadd X175 hx (hb hby at_84) ?_
        show Go _ _ _ _ T175 (mkF m 85 #[.val (.int p0), .val (.long p1), .second, .val (.int p2), .val (.int (0 : Int32)), .val (.int (1 : Int32)), .val (.int (1 : Int32)), .val (.ref a174), .val (.int (0 : Int32)), .unset, .unset, .unset] [(.int (1 : Int32)), (.ref a174)]) _ _ _
        refine Go.lloadN X175 hx (hb hby at_85) rfl ?_
        show Go _ _ _ _ T175 (mkF m 86 #[.val (.int p0), .val (.long p1), .second, .val (.int p2), .val (.int (0 : Int32)), .val (.int (1 : Int32)), .val (.int (1 : Int32)), .val (.ref a174), .val (.int (0 : Int32)), .unset, .unset, .unset] [(.long p1), (.int (1 : Int32)), (.ref a174)]) _ _ _
        refine Go.l2i X175 hx (hb hby at_86) ?_
        show Go _ _ _ _ T175 (mkF m 87 #[.val (.int p0), .val (.long p1), .second, .val (.int p2), .val (.int (0 : Int32)), .val (.int (1 : Int32)), .val (.int (1 : Int32)), .val (.ref a174), .val (.int (0 : Int32)), .unset, .unset, .unset] [(.int ((p1).toInt32)), (.int (1 : Int32)), (.ref a174)]) _ _ _
        refine Go.iastore X175 hx hZ e175 A176 (by decide) (by decide) (hb hby at_87) ?_
        intro T177 h177 X177 e177 W177 A177
        have N177 := Fr.snoc X177 N175 g_a174
        have Z177 : n0 ≤ h177.size := by rw [Wr.size W177]; exact Z175
        have B177 : h0.size ≤ h177.size := by rw [Wr.size W177]; exact B175
        have A178 : Af Z h177 a174 k174 .int 3 (fun i => Value.int ((updI (updI (fun _ => (0 : Int32)) 0 (((p1 >>> (((32 : Int32)).toInt64 &&& 63))).toInt32)) 1 ((p1).toInt32)) i)) := Af.updI A177
        show Go _ _ _ _ T177 (mkF m 88 #[.val (.int p0), .val (.long p1), .second, .val (.int p2), .val (.int (0 : Int32)), .val (.int (1 : Int32)), .val (.int (1 : Int32)), .val (.ref a174), .val (.int (0 : Int32)), .unset, .unset, .unset] []) _ _ _
        refine Go.iload X177 hx (hb hby at_88) rfl ?_
        show Go _ _ _ _ T177 (mkF m 90 #[.val (.int p0), .val (.long p1), .second, .val (.int p2), .val (.int (0 : Int32)), .val (.int (1 : Int32)), .val (.int (1 : Int32)), .val (.ref a174), .val (.int (0 : Int32)), .unset, .unset, .unset] [(.int (0 : Int32))]) _ _ _
        refine Go.iconst X177 hx (hb hby at_90) ?_
        show Go _ _ _ _ T177 (mkF m 91 #[.val (.int p0), .val (.long p1), .second, .val (.int p2), .val (.int (0 : Int32)), .val (.int (1 : Int32)), .val (.int (1 : Int32)), .val (.ref a174), .val (.int (0 : Int32)), .unset, .unset, .unset] [(.int (2 : Int32)), (.int (0 : Int32))]) _ _ _
        refine Go.iadd X177 hx (hb hby at_91) ?_
        show Go _ _ _ _ T177 (mkF m 92 #[.val (.int p0), .val (.long p1), .second, .val (.int p2), .val (.int (0 : Int32)), .val (.int (1 : Int32)), .val (.int (1 : Int32)), .val (.ref a174), .val (.int (0 : Int32)), .unset, .unset, .unset] [(.int (2 : Int32))]) _ _ _
        refine Go.istore X177 hx (hb hby at_92) (l' := #[.val (.int p0), .val (.long p1), .second, .val (.int p2), .val (.int (0 : Int32)), .val (.int (1 : Int32)), .val (.int (1 : Int32)), .val (.ref a174), .val (.int (2 : Int32)), .unset, .unset, .unset]) rfl ?_
        show Go _ _ _ _ T177 (mkF m 94 #[.val (.int p0), .val (.long p1), .second, .val (.int p2), .val (.int (0 : Int32)), .val (.int (1 : Int32)), .val (.int (1 : Int32)), .val (.ref a174), .val (.int (2 : Int32)), .unset, .unset, .unset] []) _ _ _
        refine Go.newO X177 hx hZ hown (w1 hw) (w2 hw) (w3 hw) e177 (hb hby at_94) (by decide) (by decide) ?_
        intro T179 h179 a179 b179 X179 e179 E179 A179 D179
        have g_a179 : n0 ≤ a179 := by rw [b179]; exact Z177
        have y_a179 : h0.size ≤ a179 := by rw [b179]; exact B177
        have ne_a174_a179 : a174 ≠ a179 := by rw [b179]; exact Nat.ne_of_lt A178.lt
        have Z179 : n0 ≤ h179.size := Nat.le_trans Z177 E179.1
        have B179 : h0.size ≤ h179.size := Nat.le_trans B177 E179.1
        show Go _ _ _ _ T179 (mkF m 97 #[.val (.int p0), .val (.long p1), .second, .val (.int p2), .val (.int (0 : Int32)), .val (.int (1 : Int32)), .val (.int (1 : Int32)), .val (.ref a174), .val (.int (2 : Int32)), .unset, .unset, .unset] [(.ref a179)]) _ _ _
        refine Go.dup X179 hx (hb hby at_97) rfl ?_
        show Go _ _ _ _ T179 (mkF m 98 #[.val (.int p0), .val (.long p1), .second, .val (.int p2), .val (.int (0 : Int32)), .val (.int (1 : Int32)), .val (.int (1 : Int32)), .val (.ref a174), .val (.int (2 : Int32)), .unset, .unset, .unset] [(.ref a179), (.ref a179)]) _ _ _
        have F180 := (D179 (Or.inl (w12 hw)) (ty := (.array .byte)) (by decide))
        have F181 := (D179 (Or.inl (w14 hw)) (ty := .int) (by decide))
        refine Go.callI (W := 1) (a := a179) (argsL := []) (rest := [(.ref a179)]) X179 hx hZ hown rfl (w4 hw) (w5 hw) (w3 hw) (w6 hw) (by decide) (rm_init l Z a0 hw a179 h179 n0 Z179 A179 g_a179 F180 F181) e179 (lenOf pd_5 rfl) (hb hby at_98) (by rw [hml]; rfl) rfl (Nat.le_of_eq rfl) (by decide) (by decide) (by decide) (by decide) ?_
        intro v182 T182 L182 X182 q182
        obtain ⟨ab182, kb182, rfl, M182, K182, P182_0, P182_1, P182_2, P182_3, P182_4, P182_5, P182_6⟩ := q182
        have N182 := Fr.app N177 M182
        have Z182 : n0 ≤ T182.heap.size := Nat.le_trans Z179 K182.1
        have B182 : h0.size ≤ T182.heap.size := Nat.le_trans B179 K182.1
        have ne_a174_ab182 : a174 ≠ ab182 := Nat.ne_of_lt (Nat.lt_of_lt_of_le ((Af.ext E179 A178)).lt P182_2)
        have ne_a179_ab182 : a179 ≠ ab182 := Nat.ne_of_lt (Nat.lt_of_lt_of_le (A179).lt P182_2)
        show Go _ _ _ _ T182 (mkF m 101 #[.val (.int p0), .val (.long p1), .second, .val (.int p2), .val (.int (0 : Int32)), .val (.int (1 : Int32)), .val (.int (1 : Int32)), .val (.ref a174), .val (.int (2 : Int32)), .unset, .unset, .unset] [(.ref a179)]) _ _ _
        refine Go.astore X182 hx (hb hby at_101) rfl (l' := #[.val (.int p0), .val (.long p1), .second, .val (.int p2), .val (.int (0 : Int32)), .val (.int (1 : Int32)), .val (.int (1 : Int32)), .val (.ref a174), .val (.int (2 : Int32)), .val (.ref a179), .unset, .unset]) rfl ?_
        show Go _ _ _ _ T182 (mkF m 103 #[.val (.int p0), .val (.long p1), .second, .val (.int p2), .val (.int (0 : Int32)), .val (.int (1 : Int32)), .val (.int (1 : Int32)), .val (.ref a174), .val (.int (2 : Int32)), .val (.ref a179), .unset, .unset] []) _ _ _
        refine Go.iload X182 hx (hb hby at_103) rfl ?_
        show Go _ _ _ _ T182 (mkF m 105 #[.val (.int p0), .val (.long p1), .second, .val (.int p2), .val (.int (0 : Int32)), .val (.int (1 : Int32)), .val (.int (1 : Int32)), .val (.ref a174), .val (.int (2 : Int32)), .val (.ref a179), .unset, .unset] [(.int (1 : Int32))]) _ _ _
        refine Go.ifNo X182 hx (hb hby at_105) (XT.i0_eq_f (by decide)) ?_
        show Go _ _ _ _ T182 (mkF m 108 #[.val (.int p0), .val (.long p1), .second, .val (.int p2), .val (.int (0 : Int32)), .val (.int (1 : Int32)), .val (.int (1 : Int32)), .val (.ref a174), .val (.int (2 : Int32)), .val (.ref a179), .unset, .unset] []) _ _ _
        refine Go.aload X182 hx (hb hby at_108) rfl rfl ?_
        show Go _ _ _ _ T182 (mkF m 110 #[.val (.int p0), .val (.long p1), .second, .val (.int p2), .val (.int (0 : Int32)), .val (.int (1 : Int32)), .val (.int (1 : Int32)), .val (.ref a174), .val (.int (2 : Int32)), .val (.ref a179), .unset, .unset] [(.ref a179)]) _ _ _
        refine Go.lloadN X182 hx (hb hby at_110) rfl ?_
        show Go _ _ _ _ T182 (mkF m 111 #[.val (.int p0), .val (.long p1), .second, .val (.int p2), .val (.int (0 : Int32)), .val (.int (1 : Int32)), .val (.int (1 : Int32)), .val (.ref a174), .val (.int (2 : Int32)), .val (.ref a179), .unset, .unset] [(.long p1), (.ref a179)]) _ _ _
        refine Go.ldc2 X182 hx hZ hown (w64 hw) (hb hby at_111) ?_
        show Go _ _ _ _ T182 (mkF m 114 #[.val (.int p0), .val (.long p1), .second, .val (.int p2), .val (.int (0 : Int32)), .val (.int (1 : Int32)), .val (.int (1 : Int32)), .val (.ref a174), .val (.int (2 : Int32)), .val (.ref a179), .unset, .unset] [(.long (-1 : Int64)), (.long p1), (.ref a179)]) _ _ _
        refine Go.lxor X182 hx (hb hby at_114) ?_
        show Go _ _ _ _ T182 (mkF m 115 #[.val (.int p0), .val (.long p1), .second, .val (.int p2), .val (.int (0 : Int32)), .val (.int (1 : Int32)), .val (.int (1 : Int32)), .val (.ref a174), .val (.int (2 : Int32)), .val (.ref a179), .unset, .unset] [(.long (p1 ^^^ (-1 : Int64))), (.ref a179)]) _ _ _
        refine Go.callV (W := 0) (argsL := [(.long (p1 ^^^ (-1 : Int64)))]) (rest := []) X182 hx hZ hown (w58 hw) (w59 hw) (w61 hw) (w60 hw) (w3 hw) (w62 hw) (notFace_of_selects (args := #[]) (mvT hZ (w61 hw))) (by decide) P182_0 (rm_wl4 l Z a0 hw a179 (p1 ^^^ (-1 : Int64)) ab182 kb182 (fun _ => (0 : Int32)) T182.heap n0 Z182 P182_0 g_a179 P182_1 P182_3 P182_4 P182_6 P182_5) rfl (lenOf pd_8 rfl) (hb hby at_115) (by rw [hml]; rfl) rfl (Nat.le_of_eq rfl) (by decide) (by decide) (by decide) (by decide) ?_
        intro v183 T183 L183 X183 q183
        obtain ⟨rfl, M183, K183, P183_0, P183_1, P183_2, P183_3⟩ := q183
        have N183 := Fr.app N182 M183
        have Z183 : n0 ≤ T183.heap.size := Nat.le_trans Z182 K183.1
        have B183 : h0.size ≤ T183.heap.size := Nat.le_trans B182 K183.1
        show Go _ _ _ _ T183 (mkF m 118 #[.val (.int p0), .val (.long p1), .second, .val (.int p2), .val (.int (0 : Int32)), .val (.int (1 : Int32)), .val (.int (1 : Int32)), .val (.ref a174), .val (.int (2 : Int32)), .val (.ref a179), .unset, .unset] []) _ _ _
        refine Go.aload X183 hx (hb hby at_118) rfl rfl ?_
        show Go _ _ _ _ T183 (mkF m 120 #[.val (.int p0), .val (.long p1), .second, .val (.int p2), .val (.int (0 : Int32)), .val (.int (1 : Int32)), .val (.int (1 : Int32)), .val (.ref a174), .val (.int (2 : Int32)), .val (.ref a179), .unset, .unset] [(.ref a179)]) _ _ _
        refine Go.iloadN X183 hx (hb hby at_120) rfl ?_
        show Go _ _ _ _ T183 (mkF m 121 #[.val (.int p0), .val (.long p1), .second, .val (.int p2), .val (.int (0 : Int32)), .val (.int (1 : Int32)), .val (.int (1 : Int32)), .val (.ref a174), .val (.int (2 : Int32)), .val (.ref a179), .unset, .unset] [(.int p0), (.ref a179)]) _ _ _
        refine Go.iconst X183 hx (hb hby at_121) ?_
        show Go _ _ _ _ T183 (mkF m 122 #[.val (.int p0), .val (.long p1), .second, .val (.int p2), .val (.int (0 : Int32)), .val (.int (1 : Int32)), .val (.int (1 : Int32)), .val (.ref a174), .val (.int (2 : Int32)), .val (.ref a179), .unset, .unset] [(.int (-1 : Int32)), (.int p0), (.ref a179)]) _ _ _
        refine Go.ixor X183 hx (hb hby at_122) ?_
        show Go _ _ _ _ T183 (mkF m 123 #[.val (.int p0), .val (.long p1), .second, .val (.int p2), .val (.int (0 : Int32)), .val (.int (1 : Int32)), .val (.int (1 : Int32)), .val (.ref a174), .val (.int (2 : Int32)), .val (.ref a179), .unset, .unset] [(.int (p0 ^^^ (-1 : Int32))), (.ref a179)]) _ _ _
        refine Go.callV (W := 0) (argsL := [(.int (p0 ^^^ (-1 : Int32)))]) (rest := []) X183 hx hZ hown (w15 hw) (w16 hw) (w18 hw) (w17 hw) (w3 hw) (w19 hw) (notFace_of_selects (args := #[]) (mvT hZ (w18 hw))) (by decide) P183_0 (rm_wi12 l Z a0 hw a179 (p0 ^^^ (-1 : Int32)) ab182 kb182 (put4 (put4 (fun _ => (0 : Int32)) 4 ((XT.ushrL (p1 ^^^ (-1 : Int64)) (32 : Int32)).toInt32)) 8 (((p1 ^^^ (-1 : Int64))).toInt32)) T183.heap n0 Z183 P183_0 g_a179 P182_1 P182_3 P183_1 P183_3 P183_2) rfl (lenOf pd_0 rfl) (hb hby at_123) (by rw [hml]; rfl) rfl (Nat.le_of_eq rfl) (by decide) (by decide) (by decide) (by decide) ?_
        intro v184 T184 L184 X184 q184
        obtain ⟨rfl, M184, K184, P184_0, P184_1, P184_2, P184_3⟩ := q184
        have N184 := Fr.app N183 M184
        have Z184 : n0 ≤ T184.heap.size := Nat.le_trans Z183 K184.1
        have B184 : h0.size ≤ T184.heap.size := Nat.le_trans B183 K184.1
        show Go _ _ _ _ T184 (mkF m 126 #[.val (.int p0), .val (.long p1), .second, .val (.int p2), .val (.int (0 : Int32)), .val (.int (1 : Int32)), .val (.int (1 : Int32)), .val (.ref a174), .val (.int (2 : Int32)), .val (.ref a179), .unset, .unset] []) _ _ _
        refine Go.aload X184 hx (hb hby at_126) rfl rfl ?_
        show Go _ _ _ _ T184 (mkF m 128 #[.val (.int p0), .val (.long p1), .second, .val (.int p2), .val (.int (0 : Int32)), .val (.int (1 : Int32)), .val (.int (1 : Int32)), .val (.ref a174), .val (.int (2 : Int32)), .val (.ref a179), .unset, .unset] [(.ref a179)]) _ _ _
        refine Go.callV (W := 0) (argsL := []) (rest := []) X184 hx hZ hown (w65 hw) (w66 hw) (w68 hw) (w67 hw) (w3 hw) (w69 hw) (notFace_of_selects (args := #[]) (mvT hZ (w68 hw))) (by decide) P184_0 (rm_rs l Z a0 hw a179 (16 : Int32) ab182 T184.heap n0 Z184 P184_0 g_a179 P184_2 P184_1) rfl (lenOf pd_5 rfl) (hb hby at_128) (by rw [hml]; rfl) rfl (Nat.le_of_eq rfl) (by decide) (by decide) (by decide) (by decide) ?_
        intro v185 T185 L185 X185 q185
        obtain ⟨rfl, M185, K185, P185_0, P185_1, P185_2⟩ := q185
        have N185 := Fr.app N184 M185
        have Z185 : n0 ≤ T185.heap.size := Nat.le_trans Z184 K185.1
        have B185 : h0.size ≤ T185.heap.size := Nat.le_trans B184 K185.1
        show Go _ _ _ _ T185 (mkF m 131 #[.val (.int p0), .val (.long p1), .second, .val (.int p2), .val (.int (0 : Int32)), .val (.int (1 : Int32)), .val (.int (1 : Int32)), .val (.ref a174), .val (.int (2 : Int32)), .val (.ref a179), .unset, .unset] []) _ _ _
        refine Go.iload X185 hx (hb hby at_131) rfl ?_
        show Go _ _ _ _ T185 (mkF m 133 #[.val (.int p0), .val (.long p1), .second, .val (.int p2), .val (.int (0 : Int32)), .val (.int (1 : Int32)), .val (.int (1 : Int32)), .val (.ref a174), .val (.int (2 : Int32)), .val (.ref a179), .unset, .unset] [(.int (0 : Int32))]) _ _ _
        refine Go.ifYes X185 hx (hb hby at_133) (XT.i0_eq_t (by decide)) (pc' := 142) (by decide) (by decide) ?_
        show Go _ _ _ _ T185 (mkF m 142 #[.val (.int p0), .val (.long p1), .second, .val (.int p2), .val (.int (0 : Int32)), .val (.int (1 : Int32)), .val (.int (1 : Int32)), .val (.ref a174), .val (.int (2 : Int32)), .val (.ref a179), .unset, .unset] []) _ _ _
        refine Go.iload X185 hx (hb hby at_142) rfl ?_
        show Go _ _ _ _ T185 (mkF m 144 #[.val (.int p0), .val (.long p1), .second, .val (.int p2), .val (.int (0 : Int32)), .val (.int (1 : Int32)), .val (.int (1 : Int32)), .val (.ref a174), .val (.int (2 : Int32)), .val (.ref a179), .unset, .unset] [(.int (1 : Int32))]) _ _ _
        refine Go.ifNo X185 hx (hb hby at_144) (XT.i0_eq_f (by decide)) ?_
        show Go _ _ _ _ T185 (mkF m 147 #[.val (.int p0), .val (.long p1), .second, .val (.int p2), .val (.int (0 : Int32)), .val (.int (1 : Int32)), .val (.int (1 : Int32)), .val (.ref a174), .val (.int (2 : Int32)), .val (.ref a179), .unset, .unset] []) _ _ _
        refine Go.aload X185 hx (hb hby at_147) rfl rfl ?_
        show Go _ _ _ _ T185 (mkF m 149 #[.val (.int p0), .val (.long p1), .second, .val (.int p2), .val (.int (0 : Int32)), .val (.int (1 : Int32)), .val (.int (1 : Int32)), .val (.ref a174), .val (.int (2 : Int32)), .val (.ref a179), .unset, .unset] [(.ref a179)]) _ _ _
        refine Go.lloadN X185 hx (hb hby at_149) rfl ?_
        show Go _ _ _ _ T185 (mkF m 150 #[.val (.int p0), .val (.long p1), .second, .val (.int p2), .val (.int (0 : Int32)), .val (.int (1 : Int32)), .val (.int (1 : Int32)), .val (.ref a174), .val (.int (2 : Int32)), .val (.ref a179), .unset, .unset] [(.long p1), (.ref a179)]) _ _ _
        have F186 := (Af.keep P184_3 K185 (ninS (Ne.symm P182_3) nin0))
        refine Go.callV (W := 0) (argsL := [(.long p1)]) (rest := []) X185 hx hZ hown (w58 hw) (w59 hw) (w61 hw) (w60 hw) (w3 hw) (w62 hw) (notFace_of_selects (args := #[]) (mvT hZ (w61 hw))) (by decide) P185_0 (rm_wl4 l Z a0 hw a179 p1 ab182 kb182 (put4 (put4 (put4 (fun _ => (0 : Int32)) 4 ((XT.ushrL (p1 ^^^ (-1 : Int64)) (32 : Int32)).toInt32)) 8 (((p1 ^^^ (-1 : Int64))).toInt32)) 12 (p0 ^^^ (-1 : Int32))) T185.heap n0 Z185 P185_0 g_a179 P182_1 P182_3 P185_2 F186 P185_1) rfl (lenOf pd_8 rfl) (hb hby at_150) (by rw [hml]; rfl) rfl (Nat.le_of_eq rfl) (by decide) (by decide) (by decide) (by decide) ?_
        intro v187 T187 L187 X187 q187
        obtain ⟨rfl, M187, K187, P187_0, P187_1, P187_2, P187_3⟩ := q187
        have N187 := Fr.app N185 M187
        have Z187 : n0 ≤ T187.heap.size := Nat.le_trans Z185 K187.1
        have B187 : h0.size ≤ T187.heap.size := Nat.le_trans B185 K187.1
        show Go _ _ _ _ T187 (mkF m 153 #[.val (.int p0), .val (.long p1), .second, .val (.int p2), .val (.int (0 : Int32)), .val (.int (1 : Int32)), .val (.int (1 : Int32)), .val (.ref a174), .val (.int (2 : Int32)), .val (.ref a179), .unset, .unset] []) _ _ _
        refine Go.aload X187 hx (hb hby at_153) rfl rfl ?_
        show Go _ _ _ _ T187 (mkF m 155 #[.val (.int p0), .val (.long p1), .second, .val (.int p2), .val (.int (0 : Int32)), .val (.int (1 : Int32)), .val (.int (1 : Int32)), .val (.ref a174), .val (.int (2 : Int32)), .val (.ref a179), .unset, .unset] [(.ref a179)]) _ _ _
        have F188 := (Af.keep (Af.keep (Af.keep (Af.keep (Af.keep (Af.ext E179 A178) K182 (ninS ne_a174_a179 nin0)) K183 (ninS ne_a174_a179 (ninS ne_a174_ab182 nin0))) K184 (ninS ne_a174_a179 (ninS ne_a174_ab182 nin0))) K185 (ninS ne_a174_a179 nin0)) K187 (ninS ne_a174_a179 (ninS ne_a174_ab182 nin0)))
        refine Go.callV (W := 0) (argsL := []) (rest := []) X187 hx hZ hown (w28 hw) (w29 hw) (w31 hw) (w30 hw) (w3 hw) (w32 hw) (notFace_of_selects (args := #[]) (mvT hZ (w31 hw))) (by decide) P187_0 (rm_tb2 l Z a0 hw a179 ab182 kb182 (put4 (put4 (put4 (put4 (put4 (fun _ => (0 : Int32)) 4 ((XT.ushrL (p1 ^^^ (-1 : Int64)) (32 : Int32)).toInt32)) 8 (((p1 ^^^ (-1 : Int64))).toInt32)) 12 (p0 ^^^ (-1 : Int32))) 4 ((XT.ushrL p1 (32 : Int32)).toInt32)) 8 ((p1).toInt32)) T187.heap n0 Z187 (okB_put (okB_put (okB_put (okB_put (okB_put okB0))))) P187_1 P187_2 P187_3) rfl (lenOf pd_6 rfl) (hb hby at_155) (by rw [hml]; rfl) rfl (Nat.le_of_eq rfl) (by decide) (by decide) (by decide) (by decide) ?_
        intro v189 T189 L189 X189 q189
        obtain ⟨r189, kr189, rfl, M189, K189, P189_0, P189_1, P189_2⟩ := q189
        have N189 := Fr.app N187 M189
        have Z189 : n0 ≤ T189.heap.size := Nat.le_trans Z187 K189.1
        have B189 : h0.size ≤ T189.heap.size := Nat.le_trans B187 K189.1
        have ne_a174_r189 : a174 ≠ r189 := Nat.ne_of_lt (Nat.lt_of_lt_of_le (F188).lt P189_1)
        have ne_a179_r189 : a179 ≠ r189 := Nat.ne_of_lt (Nat.lt_of_lt_of_le (P187_0).lt P189_1)
        have ne_ab182_r189 : ab182 ≠ r189 := Nat.ne_of_lt (Nat.lt_of_lt_of_le (P187_3).lt P189_1)
        show Go _ _ _ _ T189 (mkF m 158 #[.val (.int p0), .val (.long p1), .second, .val (.int p2), .val (.int (0 : Int32)), .val (.int (1 : Int32)), .val (.int (1 : Int32)), .val (.ref a174), .val (.int (2 : Int32)), .val (.ref a179), .unset, .unset] [(.ref r189)]) _ _ _
        refine Go.astore X189 hx (hb hby at_158) rfl (l' := #[.val (.int p0), .val (.long p1), .second, .val (.int p2), .val (.int (0 : Int32)), .val (.int (1 : Int32)), .val (.int (1 : Int32)), .val (.ref a174), .val (.int (2 : Int32)), .val (.ref a179), .val (.ref r189), .unset]) rfl ?_
        show Go _ _ _ _ T189 (mkF m 160 #[.val (.int p0), .val (.long p1), .second, .val (.int p2), .val (.int (0 : Int32)), .val (.int (1 : Int32)), .val (.int (1 : Int32)), .val (.ref a174), .val (.int (2 : Int32)), .val (.ref a179), .val (.ref r189), .unset] []) _ _ _
        refine Go.aload X189 hx (hb hby at_160) rfl rfl ?_
        show Go _ _ _ _ T189 (mkF m 162 #[.val (.int p0), .val (.long p1), .second, .val (.int p2), .val (.int (0 : Int32)), .val (.int (1 : Int32)), .val (.int (1 : Int32)), .val (.ref a174), .val (.int (2 : Int32)), .val (.ref a179), .val (.ref r189), .unset] [(.ref r189)]) _ _ _
        refine Go.aload X189 hx (hb hby at_162) rfl rfl ?_
        show Go _ _ _ _ T189 (mkF m 164 #[.val (.int p0), .val (.long p1), .second, .val (.int p2), .val (.int (0 : Int32)), .val (.int (1 : Int32)), .val (.int (1 : Int32)), .val (.ref a174), .val (.int (2 : Int32)), .val (.ref a179), .val (.ref r189), .unset] [(.ref a174), (.ref r189)]) _ _ _
        refine Go.iload X189 hx (hb hby at_164) rfl ?_
        show Go _ _ _ _ T189 (mkF m 166 #[.val (.int p0), .val (.long p1), .second, .val (.int p2), .val (.int (0 : Int32)), .val (.int (1 : Int32)), .val (.int (1 : Int32)), .val (.ref a174), .val (.int (2 : Int32)), .val (.ref a179), .val (.ref r189), .unset] [(.int (2 : Int32)), (.ref a174), (.ref r189)]) _ _ _
        refine Go.callS (W := 0) (argsL := [(.ref r189), (.ref a174), (.int (2 : Int32))]) (rest := []) X189 hx hZ hown (w51 hw) (w52 hw) (w53 hw) (w54 hw) (by decide) (rm_ma2 l Z a0 hw r189 a174 kr189 (fun i => (put4 (put4 (put4 (put4 (put4 (fun _ => (0 : Int32)) 4 ((XT.ushrL (p1 ^^^ (-1 : Int64)) (32 : Int32)).toInt32)) 8 (((p1 ^^^ (-1 : Int64))).toInt32)) 12 (p0 ^^^ (-1 : Int32))) 4 ((XT.ushrL p1 (32 : Int32)).toInt32)) 8 ((p1).toInt32)) (i + 4)) k174 (updI (updI (fun _ => (0 : Int32)) 0 (((p1 >>> (((32 : Int32)).toInt64 &&& 63))).toInt32)) 1 ((p1).toInt32)) T189.heap n0 Z189 P189_2 (Af.keep F188 K189 nin0) ((unit_eq _).trans (hi_eq p1)) (unit_eq ((p1).toInt32))) rfl (lenOf pd_7 rfl) (hb hby at_166) (by rw [hml]; rfl) rfl (Nat.le_of_eq rfl) (by decide) (by decide) (by decide) (by decide) ?_
        intro v190 T190 L190 X190 q190
        obtain ⟨rfl, M190, e190⟩ := q190
        have N190 := Fr.app N189 M190
        show Go _ _ _ _ T190 (mkF m 169 #[.val (.int p0), .val (.long p1), .second, .val (.int p2), .val (.int (0 : Int32)), .val (.int (1 : Int32)), .val (.int (1 : Int32)), .val (.ref a174), .val (.int (2 : Int32)), .val (.ref a179), .val (.ref r189), .unset] [(.int (1 : Int32))]) _ _ _
        refine Go.ifYes X190 hx (hb hby at_169) (XT.i0_ne_t (by decide)) (pc' := 174) (by decide) (by decide) ?_
        show Go _ _ _ _ T190 (mkF m 174 #[.val (.int p0), .val (.long p1), .second, .val (.int p2), .val (.int (0 : Int32)), .val (.int (1 : Int32)), .val (.int (1 : Int32)), .val (.ref a174), .val (.int (2 : Int32)), .val (.ref a179), .val (.ref r189), .unset] []) _ _ _
        refine Go.aload X190 hx (hb hby at_174) rfl rfl ?_
        show Go _ _ _ _ T190 (mkF m 176 #[.val (.int p0), .val (.long p1), .second, .val (.int p2), .val (.int (0 : Int32)), .val (.int (1 : Int32)), .val (.int (1 : Int32)), .val (.ref a174), .val (.int (2 : Int32)), .val (.ref a179), .val (.ref r189), .unset] [(.ref r189)]) _ _ _
        refine Go.alen X190 hx hZ e190 P189_2 (hb hby at_176) ?_
        show Go _ _ _ _ T190 (mkF m 177 #[.val (.int p0), .val (.long p1), .second, .val (.int p2), .val (.int (0 : Int32)), .val (.int (1 : Int32)), .val (.int (1 : Int32)), .val (.ref a174), .val (.int (2 : Int32)), .val (.ref a179), .val (.ref r189), .unset] [(.int (8 : Int32))]) _ _ _
        refine Go.ifNo X190 hx (hb hby at_177) (XT.i0_le_f (by decide)) ?_
        show Go _ _ _ _ T190 (mkF m 180 #[.val (.int p0), .val (.long p1), .second, .val (.int p2), .val (.int (0 : Int32)), .val (.int (1 : Int32)), .val (.int (1 : Int32)), .val (.ref a174), .val (.int (2 : Int32)), .val (.ref a179), .val (.ref r189), .unset] []) _ _ _
        refine Go.aload X190 hx (hb hby at_180) rfl rfl ?_
        show Go _ _ _ _ T190 (mkF m 182 #[.val (.int p0), .val (.long p1), .second, .val (.int p2), .val (.int (0 : Int32)), .val (.int (1 : Int32)), .val (.int (1 : Int32)), .val (.ref a174), .val (.int (2 : Int32)), .val (.ref a179), .val (.ref r189), .unset] [(.ref r189)]) _ _ _
        refine Go.iconst X190 hx (hb hby at_182) ?_
        show Go _ _ _ _ T190 (mkF m 183 #[.val (.int p0), .val (.long p1), .second, .val (.int p2), .val (.int (0 : Int32)), .val (.int (1 : Int32)), .val (.int (1 : Int32)), .val (.ref a174), .val (.int (2 : Int32)), .val (.ref a179), .val (.ref r189), .unset] [(.int (0 : Int32)), (.ref r189)]) _ _ _
        refine Go.aload X190 hx (hb hby at_183) rfl rfl ?_
        show Go _ _ _ _ T190 (mkF m 185 #[.val (.int p0), .val (.long p1), .second, .val (.int p2), .val (.int (0 : Int32)), .val (.int (1 : Int32)), .val (.int (1 : Int32)), .val (.ref a174), .val (.int (2 : Int32)), .val (.ref a179), .val (.ref r189), .unset] [(.ref r189), (.int (0 : Int32)), (.ref r189)]) _ _ _
        refine Go.iconst X190 hx (hb hby at_185) ?_
        show Go _ _ _ _ T190 (mkF m 186 #[.val (.int p0), .val (.long p1), .second, .val (.int p2), .val (.int (0 : Int32)), .val (.int (1 : Int32)), .val (.int (1 : Int32)), .val (.ref a174), .val (.int (2 : Int32)), .val (.ref a179), .val (.ref r189), .unset] [(.int (0 : Int32)), (.ref r189), (.int (0 : Int32)), (.ref r189)]) _ _ _
        refine Go.baloadB X190 hx hZ e190 P189_2 (by decide) (by decide) (hb hby at_186) ?_
        show Go _ _ _ _ T190 (mkF m 187 #[.val (.int p0), .val (.long p1), .second, .val (.int p2), .val (.int (0 : Int32)), .val (.int (1 : Int32)), .val (.int (1 : Int32)), .val (.ref a174), .val (.int (2 : Int32)), .val (.ref a179), .val (.ref r189), .unset] [(.int ((fun i => (put4 (put4 (put4 (put4 (put4 (fun _ => (0 : Int32)) 4 ((XT.ushrL (p1 ^^^ (-1 : Int64)) (32 : Int32)).toInt32)) 8 (((p1 ^^^ (-1 : Int64))).toInt32)) 12 (p0 ^^^ (-1 : Int32))) 4 ((XT.ushrL p1 (32 : Int32)).toInt32)) 8 ((p1).toInt32)) (i + 4)) 0)), (.int (0 : Int32)), (.ref r189)]) _ _ _
        refine Go.iconst X190 hx (hb hby at_187) ?_
        show Go _ _ _ _ T190 (mkF m 188 #[.val (.int p0), .val (.long p1), .second, .val (.int p2), .val (.int (0 : Int32)), .val (.int (1 : Int32)), .val (.int (1 : Int32)), .val (.ref a174), .val (.int (2 : Int32)), .val (.ref a179), .val (.ref r189), .unset] [(.int (1 : Int32)), (.int ((fun i => (put4 (put4 (put4 (put4 (put4 (fun _ => (0 : Int32)) 4 ((XT.ushrL (p1 ^^^ (-1 : Int64)) (32 : Int32)).toInt32)) 8 (((p1 ^^^ (-1 : Int64))).toInt32)) 12 (p0 ^^^ (-1 : Int32))) 4 ((XT.ushrL p1 (32 : Int32)).toInt32)) 8 ((p1).toInt32)) (i + 4)) 0)), (.int (0 : Int32)), (.ref r189)]) _ _ _
        refine Go.ixor X190 hx (hb hby at_188) ?_
        show Go _ _ _ _ T190 (mkF m 189 #[.val (.int p0), .val (.long p1), .second, .val (.int p2), .val (.int (0 : Int32)), .val (.int (1 : Int32)), .val (.int (1 : Int32)), .val (.ref a174), .val (.int (2 : Int32)), .val (.ref a179), .val (.ref r189), .unset] [(.int (((fun i => (put4 (put4 (put4 (put4 (put4 (fun _ => (0 : Int32)) 4 ((XT.ushrL (p1 ^^^ (-1 : Int64)) (32 : Int32)).toInt32)) 8 (((p1 ^^^ (-1 : Int64))).toInt32)) 12 (p0 ^^^ (-1 : Int32))) 4 ((XT.ushrL p1 (32 : Int32)).toInt32)) 8 ((p1).toInt32)) (i + 4)) 0) ^^^ (1 : Int32))), (.int (0 : Int32)), (.ref r189)]) _ _ _
        refine Go.i2b X190 hx (hb hby at_189) ?_
        show Go _ _ _ _ T190 (mkF m 190 #[.val (.int p0), .val (.long p1), .second, .val (.int p2), .val (.int (0 : Int32)), .val (.int (1 : Int32)), .val (.int (1 : Int32)), .val (.ref a174), .val (.int (2 : Int32)), .val (.ref a179), .val (.ref r189), .unset] [(.int (((((fun i => (put4 (put4 (put4 (put4 (put4 (fun _ => (0 : Int32)) 4 ((XT.ushrL (p1 ^^^ (-1 : Int64)) (32 : Int32)).toInt32)) 8 (((p1 ^^^ (-1 : Int64))).toInt32)) 12 (p0 ^^^ (-1 : Int32))) 4 ((XT.ushrL p1 (32 : Int32)).toInt32)) 8 ((p1).toInt32)) (i + 4)) 0) ^^^ (1 : Int32))).toInt8.toInt32)), (.int (0 : Int32)), (.ref r189)]) _ _ _
        refine Go.bastoreB X190 hx hZ e190 P189_2 (by decide) (by decide) (hb hby at_190) ?_
        intro T191 h191 X191 e191 W191 A191
        have N191 := Fr.snoc X191 N190 P189_0
        have Z191 : n0 ≤ h191.size := by rw [Wr.size W191]; exact Z189
        have B191 : h0.size ≤ h191.size := by rw [Wr.size W191]; exact B189
        have A192 : Af Z h191 r189 kr189 .byte 8 (fun i => Value.int ((updI (fun i => (put4 (put4 (put4 (put4 (put4 (fun _ => (0 : Int32)) 4 ((XT.ushrL (p1 ^^^ (-1 : Int64)) (32 : Int32)).toInt32)) 8 (((p1 ^^^ (-1 : Int64))).toInt32)) 12 (p0 ^^^ (-1 : Int32))) 4 ((XT.ushrL p1 (32 : Int32)).toInt32)) 8 ((p1).toInt32)) (i + 4)) 0 (((((((fun i => (put4 (put4 (put4 (put4 (put4 (fun _ => (0 : Int32)) 4 ((XT.ushrL (p1 ^^^ (-1 : Int64)) (32 : Int32)).toInt32)) 8 (((p1 ^^^ (-1 : Int64))).toInt32)) 12 (p0 ^^^ (-1 : Int32))) 4 ((XT.ushrL p1 (32 : Int32)).toInt32)) 8 ((p1).toInt32)) (i + 4)) 0) ^^^ (1 : Int32))).toInt8.toInt32)).toInt8.toInt32)) i)) := Af.updI A191
        show Go _ _ _ _ T191 (mkF m 191 #[.val (.int p0), .val (.long p1), .second, .val (.int p2), .val (.int (0 : Int32)), .val (.int (1 : Int32)), .val (.int (1 : Int32)), .val (.ref a174), .val (.int (2 : Int32)), .val (.ref a179), .val (.ref r189), .unset] []) _ _ _
        refine Go.aload X191 hx (hb hby at_191) rfl rfl ?_
        show Go _ _ _ _ T191 (mkF m 193 #[.val (.int p0), .val (.long p1), .second, .val (.int p2), .val (.int (0 : Int32)), .val (.int (1 : Int32)), .val (.int (1 : Int32)), .val (.ref a174), .val (.int (2 : Int32)), .val (.ref a179), .val (.ref r189), .unset] [(.ref a179)]) _ _ _
        have F193 := (Af.other W191 (Af.keep F188 K189 nin0) ne_a174_r189)
        have F194 := (Af.other W191 (Af.keep P187_3 K189 nin0) ne_ab182_r189)
        have F195 := (Fld.other W191 (Fld.keep P187_1 K189 nin0) (Or.inl ne_a179_r189))
        have F196 := (Fld.other W191 (Fld.keep P187_2 K189 nin0) (Or.inl ne_a179_r189))
        refine Go.callV (W := 0) (argsL := []) (rest := []) X191 hx hZ hown (w28 hw) (w29 hw) (w31 hw) (w30 hw) (w3 hw) (w32 hw) (notFace_of_selects (args := #[]) (mvT hZ (w31 hw))) (by decide) (Exa.wr W191 (Exa.keep P187_0 K189)) (rm_tb2 l Z a0 hw a179 ab182 kb182 (put4 (put4 (put4 (put4 (put4 (fun _ => (0 : Int32)) 4 ((XT.ushrL (p1 ^^^ (-1 : Int64)) (32 : Int32)).toInt32)) 8 (((p1 ^^^ (-1 : Int64))).toInt32)) 12 (p0 ^^^ (-1 : Int32))) 4 ((XT.ushrL p1 (32 : Int32)).toInt32)) 8 ((p1).toInt32)) h191 n0 Z191 (okB_put (okB_put (okB_put (okB_put (okB_put okB0))))) F195 F196 F194) e191 (lenOf pd_6 rfl) (hb hby at_193) (by rw [hml]; rfl) rfl (Nat.le_of_eq rfl) (by decide) (by decide) (by decide) (by decide) ?_
        intro v197 T197 L197 X197 q197
        obtain ⟨r197, kr197, rfl, M197, K197, P197_0, P197_1, P197_2⟩ := q197
        have N197 := Fr.app N191 M197
        have Z197 : n0 ≤ T197.heap.size := Nat.le_trans Z191 K197.1
        have B197 : h0.size ≤ T197.heap.size := Nat.le_trans B191 K197.1
        have ne_a174_r197 : a174 ≠ r197 := Nat.ne_of_lt (Nat.lt_of_lt_of_le (F193).lt P197_1)
        have ne_a179_r197 : a179 ≠ r197 := Nat.ne_of_lt (Nat.lt_of_lt_of_le ((Exa.wr W191 (Exa.keep P187_0 K189))).lt P197_1)
        have ne_ab182_r197 : ab182 ≠ r197 := Nat.ne_of_lt (Nat.lt_of_lt_of_le (F194).lt P197_1)
        have ne_r189_r197 : r189 ≠ r197 := Nat.ne_of_lt (Nat.lt_of_lt_of_le (A192).lt P197_1)
        show Go _ _ _ _ T197 (mkF m 196 #[.val (.int p0), .val (.long p1), .second, .val (.int p2), .val (.int (0 : Int32)), .val (.int (1 : Int32)), .val (.int (1 : Int32)), .val (.ref a174), .val (.int (2 : Int32)), .val (.ref a179), .val (.ref r189), .unset] [(.ref r197)]) _ _ _
        refine Go.astore X197 hx (hb hby at_196) rfl (l' := #[.val (.int p0), .val (.long p1), .second, .val (.int p2), .val (.int (0 : Int32)), .val (.int (1 : Int32)), .val (.int (1 : Int32)), .val (.ref a174), .val (.int (2 : Int32)), .val (.ref a179), .val (.ref r189), .val (.ref r197)]) rfl ?_
        show Go _ _ _ _ T197 (mkF m 198 #[.val (.int p0), .val (.long p1), .second, .val (.int p2), .val (.int (0 : Int32)), .val (.int (1 : Int32)), .val (.int (1 : Int32)), .val (.ref a174), .val (.int (2 : Int32)), .val (.ref a179), .val (.ref r189), .val (.ref r197)] []) _ _ _
        refine Go.aload X197 hx (hb hby at_198) rfl rfl ?_
        show Go _ _ _ _ T197 (mkF m 200 #[.val (.int p0), .val (.long p1), .second, .val (.int p2), .val (.int (0 : Int32)), .val (.int (1 : Int32)), .val (.int (1 : Int32)), .val (.ref a174), .val (.int (2 : Int32)), .val (.ref a179), .val (.ref r189), .val (.ref r197)] [(.ref r197)]) _ _ _
        refine Go.aload X197 hx (hb hby at_200) rfl rfl ?_
        show Go _ _ _ _ T197 (mkF m 202 #[.val (.int p0), .val (.long p1), .second, .val (.int p2), .val (.int (0 : Int32)), .val (.int (1 : Int32)), .val (.int (1 : Int32)), .val (.ref a174), .val (.int (2 : Int32)), .val (.ref a179), .val (.ref r189), .val (.ref r197)] [(.ref a174), (.ref r197)]) _ _ _
        refine Go.iload X197 hx (hb hby at_202) rfl ?_
        show Go _ _ _ _ T197 (mkF m 204 #[.val (.int p0), .val (.long p1), .second, .val (.int p2), .val (.int (0 : Int32)), .val (.int (1 : Int32)), .val (.int (1 : Int32)), .val (.ref a174), .val (.int (2 : Int32)), .val (.ref a179), .val (.ref r189), .val (.ref r197)] [(.int (2 : Int32)), (.ref a174), (.ref r197)]) _ _ _
        refine Go.callS (W := 0) (argsL := [(.ref r197), (.ref a174), (.int (2 : Int32))]) (rest := []) X197 hx hZ hown (w51 hw) (w52 hw) (w53 hw) (w54 hw) (by decide) (rm_ma2 l Z a0 hw r197 a174 kr197 (fun i => (put4 (put4 (put4 (put4 (put4 (fun _ => (0 : Int32)) 4 ((XT.ushrL (p1 ^^^ (-1 : Int64)) (32 : Int32)).toInt32)) 8 (((p1 ^^^ (-1 : Int64))).toInt32)) 12 (p0 ^^^ (-1 : Int32))) 4 ((XT.ushrL p1 (32 : Int32)).toInt32)) 8 ((p1).toInt32)) (i + 4)) k174 (updI (updI (fun _ => (0 : Int32)) 0 (((p1 >>> (((32 : Int32)).toInt64 &&& 63))).toInt32)) 1 ((p1).toInt32)) T197.heap n0 Z197 P197_2 (Af.keep F193 K197 nin0) ((unit_eq _).trans (hi_eq p1)) (unit_eq ((p1).toInt32))) rfl (lenOf pd_7 rfl) (hb hby at_204) (by rw [hml]; rfl) rfl (Nat.le_of_eq rfl) (by decide) (by decide) (by decide) (by decide) ?_
        intro v198 T198 L198 X198 q198
        obtain ⟨rfl, M198, e198⟩ := q198
        have N198 := Fr.app N197 M198
        show Go _ _ _ _ T198 (mkF m 207 #[.val (.int p0), .val (.long p1), .second, .val (.int p2), .val (.int (0 : Int32)), .val (.int (1 : Int32)), .val (.int (1 : Int32)), .val (.ref a174), .val (.int (2 : Int32)), .val (.ref a179), .val (.ref r189), .val (.ref r197)] [(.int (1 : Int32))]) _ _ _
        refine Go.retZ X198 hx hlk hret (by decide) (hb hby at_207) (by decide) (by decide) ?_
        rw [e198]
        exact ⟨rfl, N198⟩
  · refine Go.ifNo X0 hx (hb hby at_3) (XT.i0_eq_f c123) ?_
    show Go _ _ _ _ s₁ (mkF m 6 #[.val (.int p0), .val (.long p1), .second, .val (.int p2), .unset, .unset, .unset, .unset, .unset, .unset, .unset, .unset] []) _ _ _
    refine Go.iconst X0 hx (hb hby at_6) ?_
    show Go _ _ _ _ s₁ (mkF m 7 #[.val (.int p0), .val (.long p1), .second, .val (.int p2), .unset, .unset, .unset, .unset, .unset, .unset, .unset, .unset] [(.int (1 : Int32))]) _ _ _
    refine Go.goto X0 hx (hb hby at_7) (pc' := 11) (by decide) (by decide) ?_
    show Go _ _ _ _ s₁ (mkF m 11 #[.val (.int p0), .val (.long p1), .second, .val (.int p2), .unset, .unset, .unset, .unset, .unset, .unset, .unset, .unset] [(.int (1 : Int32))]) _ _ _
    refine Go.istore X0 hx (hb hby at_11) (l' := #[.val (.int p0), .val (.long p1), .second, .val (.int p2), .val (.int (1 : Int32)), .unset, .unset, .unset, .unset, .unset, .unset, .unset]) rfl ?_
    show Go _ _ _ _ s₁ (mkF m 13 #[.val (.int p0), .val (.long p1), .second, .val (.int p2), .val (.int (1 : Int32)), .unset, .unset, .unset, .unset, .unset, .unset, .unset] []) _ _ _
    refine Go.iloadN X0 hx (hb hby at_13) rfl ?_
    show Go _ _ _ _ s₁ (mkF m 14 #[.val (.int p0), .val (.long p1), .second, .val (.int p2), .val (.int (1 : Int32)), .unset, .unset, .unset, .unset, .unset, .unset, .unset] [(.int p2)]) _ _ _
    refine Go.iconst X0 hx (hb hby at_14) ?_
    show Go _ _ _ _ s₁ (mkF m 15 #[.val (.int p0), .val (.long p1), .second, .val (.int p2), .val (.int (1 : Int32)), .unset, .unset, .unset, .unset, .unset, .unset, .unset] [(.int (2 : Int32)), (.int p2)]) _ _ _
    refine Go.iand X0 hx (hb hby at_15) ?_
    show Go _ _ _ _ s₁ (mkF m 16 #[.val (.int p0), .val (.long p1), .second, .val (.int p2), .val (.int (1 : Int32)), .unset, .unset, .unset, .unset, .unset, .unset, .unset] [(.int (p2 &&& (2 : Int32)))]) _ _ _
    rcases Decidable.em ((p2 &&& (2 : Int32)) = (0 : Int32)) with c199 | c199
    · refine Go.ifYes X0 hx (hb hby at_16) (XT.i0_eq_t c199) (pc' := 23) (by decide) (by decide) ?_
      show Go _ _ _ _ s₁ (mkF m 23 #[.val (.int p0), .val (.long p1), .second, .val (.int p2), .val (.int (1 : Int32)), .unset, .unset, .unset, .unset, .unset, .unset, .unset] []) _ _ _
      refine Go.iconst X0 hx (hb hby at_23) ?_
      show Go _ _ _ _ s₁ (mkF m 24 #[.val (.int p0), .val (.long p1), .second, .val (.int p2), .val (.int (1 : Int32)), .unset, .unset, .unset, .unset, .unset, .unset, .unset] [(.int (0 : Int32))]) _ _ _
      refine Go.istore X0 hx (hb hby at_24) (l' := #[.val (.int p0), .val (.long p1), .second, .val (.int p2), .val (.int (1 : Int32)), .val (.int (0 : Int32)), .unset, .unset, .unset, .unset, .unset, .unset]) rfl ?_
      show Go _ _ _ _ s₁ (mkF m 26 #[.val (.int p0), .val (.long p1), .second, .val (.int p2), .val (.int (1 : Int32)), .val (.int (0 : Int32)), .unset, .unset, .unset, .unset, .unset, .unset] []) _ _ _
      refine Go.iloadN X0 hx (hb hby at_26) rfl ?_
      show Go _ _ _ _ s₁ (mkF m 27 #[.val (.int p0), .val (.long p1), .second, .val (.int p2), .val (.int (1 : Int32)), .val (.int (0 : Int32)), .unset, .unset, .unset, .unset, .unset, .unset] [(.int p2)]) _ _ _
      refine Go.iconst X0 hx (hb hby at_27) ?_
      show Go _ _ _ _ s₁ (mkF m 28 #[.val (.int p0), .val (.long p1), .second, .val (.int p2), .val (.int (1 : Int32)), .val (.int (0 : Int32)), .unset, .unset, .unset, .unset, .unset, .unset] [(.int (4 : Int32)), (.int p2)]) _ _ _
      refine Go.iand X0 hx (hb hby at_28) ?_
      show Go _ _ _ _ s₁ (mkF m 29 #[.val (.int p0), .val (.long p1), .second, .val (.int p2), .val (.int (1 : Int32)), .val (.int (0 : Int32)), .unset, .unset, .unset, .unset, .unset, .unset] [(.int (p2 &&& (4 : Int32)))]) _ _ _
      rcases Decidable.em ((p2 &&& (4 : Int32)) = (0 : Int32)) with c200 | c200
      · refine Go.ifYes X0 hx (hb hby at_29) (XT.i0_eq_t c200) (pc' := 36) (by decide) (by decide) ?_
        show Go _ _ _ _ s₁ (mkF m 36 #[.val (.int p0), .val (.long p1), .second, .val (.int p2), .val (.int (1 : Int32)), .val (.int (0 : Int32)), .unset, .unset, .unset, .unset, .unset, .unset] []) _ _ _
        refine Go.iconst X0 hx (hb hby at_36) ?_
        show Go _ _ _ _ s₁ (mkF m 37 #[.val (.int p0), .val (.long p1), .second, .val (.int p2), .val (.int (1 : Int32)), .val (.int (0 : Int32)), .unset, .unset, .unset, .unset, .unset, .unset] [(.int (0 : Int32))]) _ _ _
        refine Go.istore X0 hx (hb hby at_37) (l' := #[.val (.int p0), .val (.long p1), .second, .val (.int p2), .val (.int (1 : Int32)), .val (.int (0 : Int32)), .val (.int (0 : Int32)), .unset, .unset, .unset, .unset, .unset]) rfl ?_
        show Go _ _ _ _ s₁ (mkF m 39 #[.val (.int p0), .val (.long p1), .second, .val (.int p2), .val (.int (1 : Int32)), .val (.int (0 : Int32)), .val (.int (0 : Int32)), .unset, .unset, .unset, .unset, .unset] []) _ _ _
        refine Go.iconst X0 hx (hb hby at_39) ?_
        show Go _ _ _ _ s₁ (mkF m 40 #[.val (.int p0), .val (.long p1), .second, .val (.int p2), .val (.int (1 : Int32)), .val (.int (0 : Int32)), .val (.int (0 : Int32)), .unset, .unset, .unset, .unset, .unset] [(.int (3 : Int32))]) _ _ _
        refine Go.newarray (aty := .int) (cap := 3) X0 hx hZ (w0 hw) e0 (hb hby at_40) (by decide) (by decide) (by decide) (by decide) (by decide) ?_
        intro T201 h201 a201 k201 b201 X201 e201 E201 A201
        have g_a201 : n0 ≤ a201 := by rw [b201]; exact Z0
        have y_a201 : h0.size ≤ a201 := by rw [b201]; exact (Nat.le_refl _)
        have Z201 : n0 ≤ h201.size := Nat.le_trans Z0 E201.1
        have B201 : h0.size ≤ h201.size := Nat.le_trans (Nat.le_refl _) E201.1
        show Go _ _ _ _ T201 (mkF m 42 #[.val (.int p0), .val (.long p1), .second, .val (.int p2), .val (.int (1 : Int32)), .val (.int (0 : Int32)), .val (.int (0 : Int32)), .unset, .unset, .unset, .unset, .unset] [(.ref a201)]) _ _ _
        refine Go.astore X201 hx (hb hby at_42) rfl (l' := #[.val (.int p0), .val (.long p1), .second, .val (.int p2), .val (.int (1 : Int32)), .val (.int (0 : Int32)), .val (.int (0 : Int32)), .val (.ref a201), .unset, .unset, .unset, .unset]) rfl ?_
        show Go _ _ _ _ T201 (mkF m 44 #[.val (.int p0), .val (.long p1), .second, .val (.int p2), .val (.int (1 : Int32)), .val (.int (0 : Int32)), .val (.int (0 : Int32)), .val (.ref a201), .unset, .unset, .unset, .unset] []) _ _ _
        refine Go.iconst X201 hx (hb hby at_44) ?_
        show Go _ _ _ _ T201 (mkF m 45 #[.val (.int p0), .val (.long p1), .second, .val (.int p2), .val (.int (1 : Int32)), .val (.int (0 : Int32)), .val (.int (0 : Int32)), .val (.ref a201), .unset, .unset, .unset, .unset] [(.int (0 : Int32))]) _ _ _
        refine Go.istore X201 hx (hb hby at_45) (l' := #[.val (.int p0), .val (.long p1), .second, .val (.int p2), .val (.int (1 : Int32)), .val (.int (0 : Int32)), .val (.int (0 : Int32)), .val (.ref a201), .val (.int (0 : Int32)), .unset, .unset, .unset]) rfl ?_
        show Go _ _ _ _ T201 (mkF m 47 #[.val (.int p0), .val (.long p1), .second, .val (.int p2), .val (.int (1 : Int32)), .val (.int (0 : Int32)), .val (.int (0 : Int32)), .val (.ref a201), .val (.int (0 : Int32)), .unset, .unset, .unset] []) _ _ _
        refine Go.iload X201 hx (hb hby at_47) rfl ?_
        show Go _ _ _ _ T201 (mkF m 49 #[.val (.int p0), .val (.long p1), .second, .val (.int p2), .val (.int (1 : Int32)), .val (.int (0 : Int32)), .val (.int (0 : Int32)), .val (.ref a201), .val (.int (0 : Int32)), .unset, .unset, .unset] [(.int (1 : Int32))]) _ _ _
        refine Go.ifNo X201 hx (hb hby at_49) (XT.i0_eq_f (by decide)) ?_
        show Go _ _ _ _ T201 (mkF m 52 #[.val (.int p0), .val (.long p1), .second, .val (.int p2), .val (.int (1 : Int32)), .val (.int (0 : Int32)), .val (.int (0 : Int32)), .val (.ref a201), .val (.int (0 : Int32)), .unset, .unset, .unset] []) _ _ _
        refine Go.aload X201 hx (hb hby at_52) rfl rfl ?_
        show Go _ _ _ _ T201 (mkF m 54 #[.val (.int p0), .val (.long p1), .second, .val (.int p2), .val (.int (1 : Int32)), .val (.int (0 : Int32)), .val (.int (0 : Int32)), .val (.ref a201), .val (.int (0 : Int32)), .unset, .unset, .unset] [(.ref a201)]) _ _ _
        refine Go.iload X201 hx (hb hby at_54) rfl ?_
        show Go _ _ _ _ T201 (mkF m 56 #[.val (.int p0), .val (.long p1), .second, .val (.int p2), .val (.int (1 : Int32)), .val (.int (0 : Int32)), .val (.int (0 : Int32)), .val (.ref a201), .val (.int (0 : Int32)), .unset, .unset, .unset] [(.int (0 : Int32)), (.ref a201)]) _ _ _
        refine Go.iloadN X201 hx (hb hby at_56) rfl ?_
        show Go _ _ _ _ T201 (mkF m 57 #[.val (.int p0), .val (.long p1), .second, .val (.int p2), .val (.int (1 : Int32)), .val (.int (0 : Int32)), .val (.int (0 : Int32)), .val (.ref a201), .val (.int (0 : Int32)), .unset, .unset, .unset] [(.int p0), (.int (0 : Int32)), (.ref a201)]) _ _ _
        refine Go.iastore X201 hx hZ e201 A201 (by decide) (by decide) (hb hby at_57) ?_
        intro T202 h202 X202 e202 W202 A202
        have N202 := Fr.snoc X202 N0 g_a201
        have Z202 : n0 ≤ h202.size := by rw [Wr.size W202]; exact Z201
        have B202 : h0.size ≤ h202.size := by rw [Wr.size W202]; exact B201
        have A203 : Af Z h202 a201 k201 .int 3 (fun i => Value.int ((updI (fun _ => (0 : Int32)) 0 p0) i)) := Af.updI A202
        show Go _ _ _ _ T202 (mkF m 58 #[.val (.int p0), .val (.long p1), .second, .val (.int p2), .val (.int (1 : Int32)), .val (.int (0 : Int32)), .val (.int (0 : Int32)), .val (.ref a201), .val (.int (0 : Int32)), .unset, .unset, .unset] []) _ _ _
        refine Go.iload X202 hx (hb hby at_58) rfl ?_
        show Go _ _ _ _ T202 (mkF m 60 #[.val (.int p0), .val (.long p1), .second, .val (.int p2), .val (.int (1 : Int32)), .val (.int (0 : Int32)), .val (.int (0 : Int32)), .val (.ref a201), .val (.int (0 : Int32)), .unset, .unset, .unset] [(.int (0 : Int32))]) _ _ _
        refine Go.iconst X202 hx (hb hby at_60) ?_
        show Go _ _ _ _ T202 (mkF m 61 #[.val (.int p0), .val (.long p1), .second, .val (.int p2), .val (.int (1 : Int32)), .val (.int (0 : Int32)), .val (.int (0 : Int32)), .val (.ref a201), .val (.int (0 : Int32)), .unset, .unset, .unset] [(.int (1 : Int32)), (.int (0 : Int32))]) _ _ _
        refine Go.iadd X202 hx (hb hby at_61) ?_
        show Go _ _ _ _ T202 (mkF m 62 #[.val (.int p0), .val (.long p1), .second, .val (.int p2), .val (.int (1 : Int32)), .val (.int (0 : Int32)), .val (.int (0 : Int32)), .val (.ref a201), .val (.int (0 : Int32)), .unset, .unset, .unset] [(.int (1 : Int32))]) _ _ _
        refine Go.istore X202 hx (hb hby at_62) (l' := #[.val (.int p0), .val (.long p1), .second, .val (.int p2), .val (.int (1 : Int32)), .val (.int (0 : Int32)), .val (.int (0 : Int32)), .val (.ref a201), .val (.int (1 : Int32)), .unset, .unset, .unset]) rfl ?_
        show Go _ _ _ _ T202 (mkF m 64 #[.val (.int p0), .val (.long p1), .second, .val (.int p2), .val (.int (1 : Int32)), .val (.int (0 : Int32)), .val (.int (0 : Int32)), .val (.ref a201), .val (.int (1 : Int32)), .unset, .unset, .unset] []) _ _ _
        refine Go.iload X202 hx (hb hby at_64) rfl ?_
        show Go _ _ _ _ T202 (mkF m 66 #[.val (.int p0), .val (.long p1), .second, .val (.int p2), .val (.int (1 : Int32)), .val (.int (0 : Int32)), .val (.int (0 : Int32)), .val (.ref a201), .val (.int (1 : Int32)), .unset, .unset, .unset] [(.int (0 : Int32))]) _ _ _
        refine Go.ifYes X202 hx (hb hby at_66) (XT.i0_eq_t (by decide)) (pc' := 94) (by decide) (by decide) ?_
        show Go _ _ _ _ T202 (mkF m 94 #[.val (.int p0), .val (.long p1), .second, .val (.int p2), .val (.int (1 : Int32)), .val (.int (0 : Int32)), .val (.int (0 : Int32)), .val (.ref a201), .val (.int (1 : Int32)), .unset, .unset, .unset] []) _ _ _
        refine Go.newO X202 hx hZ hown (w1 hw) (w2 hw) (w3 hw) e202 (hb hby at_94) (by decide) (by decide) ?_
        intro T204 h204 a204 b204 X204 e204 E204 A204 D204
        have g_a204 : n0 ≤ a204 := by rw [b204]; exact Z202
        have y_a204 : h0.size ≤ a204 := by rw [b204]; exact B202
        have ne_a201_a204 : a201 ≠ a204 := by rw [b204]; exact Nat.ne_of_lt A203.lt
        have Z204 : n0 ≤ h204.size := Nat.le_trans Z202 E204.1
        have B204 : h0.size ≤ h204.size := Nat.le_trans B202 E204.1
        show Go _ _ _ _ T204 (mkF m 97 #[.val (.int p0), .val (.long p1), .second, .val (.int p2), .val (.int (1 : Int32)), .val (.int (0 : Int32)), .val (.int (0 : Int32)), .val (.ref a201), .val (.int (1 : Int32)), .unset, .unset, .unset] [(.ref a204)]) _ _ _
        refine Go.dup X204 hx (hb hby at_97) rfl ?_
        show Go _ _ _ _ T204 (mkF m 98 #[.val (.int p0), .val (.long p1), .second, .val (.int p2), .val (.int (1 : Int32)), .val (.int (0 : Int32)), .val (.int (0 : Int32)), .val (.ref a201), .val (.int (1 : Int32)), .unset, .unset, .unset] [(.ref a204), (.ref a204)]) _ _ _
        have F205 := (D204 (Or.inl (w12 hw)) (ty := (.array .byte)) (by decide))
        have F206 := (D204 (Or.inl (w14 hw)) (ty := .int) (by decide))
        refine Go.callI (W := 1) (a := a204) (argsL := []) (rest := [(.ref a204)]) X204 hx hZ hown rfl (w4 hw) (w5 hw) (w3 hw) (w6 hw) (by decide) (rm_init l Z a0 hw a204 h204 n0 Z204 A204 g_a204 F205 F206) e204 (lenOf pd_5 rfl) (hb hby at_98) (by rw [hml]; rfl) rfl (Nat.le_of_eq rfl) (by decide) (by decide) (by decide) (by decide) ?_
        intro v207 T207 L207 X207 q207
        obtain ⟨ab207, kb207, rfl, M207, K207, P207_0, P207_1, P207_2, P207_3, P207_4, P207_5, P207_6⟩ := q207
        have N207 := Fr.app N202 M207
        have Z207 : n0 ≤ T207.heap.size := Nat.le_trans Z204 K207.1
        have B207 : h0.size ≤ T207.heap.size := Nat.le_trans B204 K207.1
        have ne_a201_ab207 : a201 ≠ ab207 := Nat.ne_of_lt (Nat.lt_of_lt_of_le ((Af.ext E204 A203)).lt P207_2)
        have ne_a204_ab207 : a204 ≠ ab207 := Nat.ne_of_lt (Nat.lt_of_lt_of_le (A204).lt P207_2)
        show Go _ _ _ _ T207 (mkF m 101 #[.val (.int p0), .val (.long p1), .second, .val (.int p2), .val (.int (1 : Int32)), .val (.int (0 : Int32)), .val (.int (0 : Int32)), .val (.ref a201), .val (.int (1 : Int32)), .unset, .unset, .unset] [(.ref a204)]) _ _ _
        refine Go.astore X207 hx (hb hby at_101) rfl (l' := #[.val (.int p0), .val (.long p1), .second, .val (.int p2), .val (.int (1 : Int32)), .val (.int (0 : Int32)), .val (.int (0 : Int32)), .val (.ref a201), .val (.int (1 : Int32)), .val (.ref a204), .unset, .unset]) rfl ?_
        show Go _ _ _ _ T207 (mkF m 103 #[.val (.int p0), .val (.long p1), .second, .val (.int p2), .val (.int (1 : Int32)), .val (.int (0 : Int32)), .val (.int (0 : Int32)), .val (.ref a201), .val (.int (1 : Int32)), .val (.ref a204), .unset, .unset] []) _ _ _
        refine Go.iload X207 hx (hb hby at_103) rfl ?_
        show Go _ _ _ _ T207 (mkF m 105 #[.val (.int p0), .val (.long p1), .second, .val (.int p2), .val (.int (1 : Int32)), .val (.int (0 : Int32)), .val (.int (0 : Int32)), .val (.ref a201), .val (.int (1 : Int32)), .val (.ref a204), .unset, .unset] [(.int (0 : Int32))]) _ _ _
        refine Go.ifYes X207 hx (hb hby at_105) (XT.i0_eq_t (by decide)) (pc' := 131) (by decide) (by decide) ?_
        show Go _ _ _ _ T207 (mkF m 131 #[.val (.int p0), .val (.long p1), .second, .val (.int p2), .val (.int (1 : Int32)), .val (.int (0 : Int32)), .val (.int (0 : Int32)), .val (.ref a201), .val (.int (1 : Int32)), .val (.ref a204), .unset, .unset] []) _ _ _
        refine Go.iload X207 hx (hb hby at_131) rfl ?_
        show Go _ _ _ _ T207 (mkF m 133 #[.val (.int p0), .val (.long p1), .second, .val (.int p2), .val (.int (1 : Int32)), .val (.int (0 : Int32)), .val (.int (0 : Int32)), .val (.ref a201), .val (.int (1 : Int32)), .val (.ref a204), .unset, .unset] [(.int (1 : Int32))]) _ _ _
        refine Go.ifNo X207 hx (hb hby at_133) (XT.i0_eq_f (by decide)) ?_
        show Go _ _ _ _ T207 (mkF m 136 #[.val (.int p0), .val (.long p1), .second, .val (.int p2), .val (.int (1 : Int32)), .val (.int (0 : Int32)), .val (.int (0 : Int32)), .val (.ref a201), .val (.int (1 : Int32)), .val (.ref a204), .unset, .unset] []) _ _ _
        refine Go.aload X207 hx (hb hby at_136) rfl rfl ?_
        show Go _ _ _ _ T207 (mkF m 138 #[.val (.int p0), .val (.long p1), .second, .val (.int p2), .val (.int (1 : Int32)), .val (.int (0 : Int32)), .val (.int (0 : Int32)), .val (.ref a201), .val (.int (1 : Int32)), .val (.ref a204), .unset, .unset] [(.ref a204)]) _ _ _
        refine Go.iloadN X207 hx (hb hby at_138) rfl ?_
        show Go _ _ _ _ T207 (mkF m 139 #[.val (.int p0), .val (.long p1), .second, .val (.int p2), .val (.int (1 : Int32)), .val (.int (0 : Int32)), .val (.int (0 : Int32)), .val (.ref a201), .val (.int (1 : Int32)), .val (.ref a204), .unset, .unset] [(.int p0), (.ref a204)]) _ _ _
        refine Go.callV (W := 0) (argsL := [(.int p0)]) (rest := []) X207 hx hZ hown (w15 hw) (w16 hw) (w18 hw) (w17 hw) (w3 hw) (w19 hw) (notFace_of_selects (args := #[]) (mvT hZ (w18 hw))) (by decide) P207_0 (rm_wi4 l Z a0 hw a204 p0 ab207 kb207 (fun _ => (0 : Int32)) T207.heap n0 Z207 P207_0 g_a204 P207_1 P207_3 P207_4 P207_6 P207_5) rfl (lenOf pd_0 rfl) (hb hby at_139) (by rw [hml]; rfl) rfl (Nat.le_of_eq rfl) (by decide) (by decide) (by decide) (by decide) ?_
        intro v208 T208 L208 X208 q208
        obtain ⟨rfl, M208, K208, P208_0, P208_1, P208_2, P208_3⟩ := q208
        have N208 := Fr.app N207 M208
        have Z208 : n0 ≤ T208.heap.size := Nat.le_trans Z207 K208.1
        have B208 : h0.size ≤ T208.heap.size := Nat.le_trans B207 K208.1
        show Go _ _ _ _ T208 (mkF m 142 #[.val (.int p0), .val (.long p1), .second, .val (.int p2), .val (.int (1 : Int32)), .val (.int (0 : Int32)), .val (.int (0 : Int32)), .val (.ref a201), .val (.int (1 : Int32)), .val (.ref a204), .unset, .unset] []) _ _ _
        refine Go.iload X208 hx (hb hby at_142) rfl ?_
        show Go _ _ _ _ T208 (mkF m 144 #[.val (.int p0), .val (.long p1), .second, .val (.int p2), .val (.int (1 : Int32)), .val (.int (0 : Int32)), .val (.int (0 : Int32)), .val (.ref a201), .val (.int (1 : Int32)), .val (.ref a204), .unset, .unset] [(.int (0 : Int32))]) _ _ _
        refine Go.ifYes X208 hx (hb hby at_144) (XT.i0_eq_t (by decide)) (pc' := 153) (by decide) (by decide) ?_
        show Go _ _ _ _ T208 (mkF m 153 #[.val (.int p0), .val (.long p1), .second, .val (.int p2), .val (.int (1 : Int32)), .val (.int (0 : Int32)), .val (.int (0 : Int32)), .val (.ref a201), .val (.int (1 : Int32)), .val (.ref a204), .unset, .unset] []) _ _ _
        refine Go.aload X208 hx (hb hby at_153) rfl rfl ?_
        show Go _ _ _ _ T208 (mkF m 155 #[.val (.int p0), .val (.long p1), .second, .val (.int p2), .val (.int (1 : Int32)), .val (.int (0 : Int32)), .val (.int (0 : Int32)), .val (.ref a201), .val (.int (1 : Int32)), .val (.ref a204), .unset, .unset] [(.ref a204)]) _ _ _
        have F209 := (Af.keep (Af.keep (Af.ext E204 A203) K207 (ninS ne_a201_a204 nin0)) K208 (ninS ne_a201_a204 (ninS ne_a201_ab207 nin0)))
        refine Go.callV (W := 0) (argsL := []) (rest := []) X208 hx hZ hown (w28 hw) (w29 hw) (w31 hw) (w30 hw) (w3 hw) (w32 hw) (notFace_of_selects (args := #[]) (mvT hZ (w31 hw))) (by decide) P208_0 (rm_tb1 l Z a0 hw a204 ab207 kb207 (put4 (fun _ => (0 : Int32)) 4 p0) T208.heap n0 Z208 (okB_put okB0) P208_1 P208_2 P208_3) rfl (lenOf pd_6 rfl) (hb hby at_155) (by rw [hml]; rfl) rfl (Nat.le_of_eq rfl) (by decide) (by decide) (by decide) (by decide) ?_
        intro v210 T210 L210 X210 q210
        obtain ⟨r210, kr210, rfl, M210, K210, P210_0, P210_1, P210_2⟩ := q210
        have N210 := Fr.app N208 M210
        have Z210 : n0 ≤ T210.heap.size := Nat.le_trans Z208 K210.1
        have B210 : h0.size ≤ T210.heap.size := Nat.le_trans B208 K210.1
        have ne_a201_r210 : a201 ≠ r210 := Nat.ne_of_lt (Nat.lt_of_lt_of_le (F209).lt P210_1)
        have ne_a204_r210 : a204 ≠ r210 := Nat.ne_of_lt (Nat.lt_of_lt_of_le (P208_0).lt P210_1)
        have ne_ab207_r210 : ab207 ≠ r210 := Nat.ne_of_lt (Nat.lt_of_lt_of_le (P208_3).lt P210_1)
        show Go _ _ _ _ T210 (mkF m 158 #[.val (.int p0), .val (.long p1), .second, .val (.int p2), .val (.int (1 : Int32)), .val (.int (0 : Int32)), .val (.int (0 : Int32)), .val (.ref a201), .val (.int (1 : Int32)), .val (.ref a204), .unset, .unset] [(.ref r210)]) _ _ _
        refine Go.astore X210 hx (hb hby at_158) rfl (l' := #[.val (.int p0), .val (.long p1), .second, .val (.int p2), .val (.int (1 : Int32)), .val (.int (0 : Int32)), .val (.int (0 : Int32)), .val (.ref a201), .val (.int (1 : Int32)), .val (.ref a204), .val (.ref r210), .unset]) rfl ?_
        show Go _ _ _ _ T210 (mkF m 160 #[.val (.int p0), .val (.long p1), .second, .val (.int p2), .val (.int (1 : Int32)), .val (.int (0 : Int32)), .val (.int (0 : Int32)), .val (.ref a201), .val (.int (1 : Int32)), .val (.ref a204), .val (.ref r210), .unset] []) _ _ _
        refine Go.aload X210 hx (hb hby at_160) rfl rfl ?_
        show Go _ _ _ _ T210 (mkF m 162 #[.val (.int p0), .val (.long p1), .second, .val (.int p2), .val (.int (1 : Int32)), .val (.int (0 : Int32)), .val (.int (0 : Int32)), .val (.ref a201), .val (.int (1 : Int32)), .val (.ref a204), .val (.ref r210), .unset] [(.ref r210)]) _ _ _
        refine Go.aload X210 hx (hb hby at_162) rfl rfl ?_
        show Go _ _ _ _ T210 (mkF m 164 #[.val (.int p0), .val (.long p1), .second, .val (.int p2), .val (.int (1 : Int32)), .val (.int (0 : Int32)), .val (.int (0 : Int32)), .val (.ref a201), .val (.int (1 : Int32)), .val (.ref a204), .val (.ref r210), .unset] [(.ref a201), (.ref r210)]) _ _ _
        refine Go.iload X210 hx (hb hby at_164) rfl ?_
        show Go _ _ _ _ T210 (mkF m 166 #[.val (.int p0), .val (.long p1), .second, .val (.int p2), .val (.int (1 : Int32)), .val (.int (0 : Int32)), .val (.int (0 : Int32)), .val (.ref a201), .val (.int (1 : Int32)), .val (.ref a204), .val (.ref r210), .unset] [(.int (1 : Int32)), (.ref a201), (.ref r210)]) _ _ _
        refine Go.callS (W := 0) (argsL := [(.ref r210), (.ref a201), (.int (1 : Int32))]) (rest := []) X210 hx hZ hown (w51 hw) (w52 hw) (w53 hw) (w54 hw) (by decide) (rm_ma1 l Z a0 hw r210 a201 kr210 (fun i => (put4 (fun _ => (0 : Int32)) 4 p0) (i + 4)) k201 (updI (fun _ => (0 : Int32)) 0 p0) T210.heap n0 Z210 P210_2 (Af.keep F209 K210 nin0) (unit_eq p0)) rfl (lenOf pd_7 rfl) (hb hby at_166) (by rw [hml]; rfl) rfl (Nat.le_of_eq rfl) (by decide) (by decide) (by decide) (by decide) ?_
        intro v211 T211 L211 X211 q211
        obtain ⟨rfl, M211, e211⟩ := q211
        have N211 := Fr.app N210 M211
        show Go _ _ _ _ T211 (mkF m 169 #[.val (.int p0), .val (.long p1), .second, .val (.int p2), .val (.int (1 : Int32)), .val (.int (0 : Int32)), .val (.int (0 : Int32)), .val (.ref a201), .val (.int (1 : Int32)), .val (.ref a204), .val (.ref r210), .unset] [(.int (1 : Int32))]) _ _ _
        refine Go.ifYes X211 hx (hb hby at_169) (XT.i0_ne_t (by decide)) (pc' := 174) (by decide) (by decide) ?_
        show Go _ _ _ _ T211 (mkF m 174 #[.val (.int p0), .val (.long p1), .second, .val (.int p2), .val (.int (1 : Int32)), .val (.int (0 : Int32)), .val (.int (0 : Int32)), .val (.ref a201), .val (.int (1 : Int32)), .val (.ref a204), .val (.ref r210), .unset] []) _ _ _
        refine Go.aload X211 hx (hb hby at_174) rfl rfl ?_
        show Go _ _ _ _ T211 (mkF m 176 #[.val (.int p0), .val (.long p1), .second, .val (.int p2), .val (.int (1 : Int32)), .val (.int (0 : Int32)), .val (.int (0 : Int32)), .val (.ref a201), .val (.int (1 : Int32)), .val (.ref a204), .val (.ref r210), .unset] [(.ref r210)]) _ _ _
        refine Go.alen X211 hx hZ e211 P210_2 (hb hby at_176) ?_
        show Go _ _ _ _ T211 (mkF m 177 #[.val (.int p0), .val (.long p1), .second, .val (.int p2), .val (.int (1 : Int32)), .val (.int (0 : Int32)), .val (.int (0 : Int32)), .val (.ref a201), .val (.int (1 : Int32)), .val (.ref a204), .val (.ref r210), .unset] [(.int (4 : Int32))]) _ _ _
        refine Go.ifNo X211 hx (hb hby at_177) (XT.i0_le_f (by decide)) ?_
        show Go _ _ _ _ T211 (mkF m 180 #[.val (.int p0), .val (.long p1), .second, .val (.int p2), .val (.int (1 : Int32)), .val (.int (0 : Int32)), .val (.int (0 : Int32)), .val (.ref a201), .val (.int (1 : Int32)), .val (.ref a204), .val (.ref r210), .unset] []) _ _ _
        refine Go.aload X211 hx (hb hby at_180) rfl rfl ?_
        show Go _ _ _ _ T211 (mkF m 182 #[.val (.int p0), .val (.long p1), .second, .val (.int p2), .val (.int (1 : Int32)), .val (.int (0 : Int32)), .val (.int (0 : Int32)), .val (.ref a201), .val (.int (1 : Int32)), .val (.ref a204), .val (.ref r210), .unset] [(.ref r210)]) _ _ _
        refine Go.iconst X211 hx (hb hby at_182) ?_
        show Go _ _ _ _ T211 (mkF m 183 #[.val (.int p0), .val (.long p1), .second, .val (.int p2), .val (.int (1 : Int32)), .val (.int (0 : Int32)), .val (.int (0 : Int32)), .val (.ref a201), .val (.int (1 : Int32)), .val (.ref a204), .val (.ref r210), .unset] [(.int (0 : Int32)), (.ref r210)]) _ _ _
        refine Go.aload X211 hx (hb hby at_183) rfl rfl ?_
        show Go _ _ _ _ T211 (mkF m 185 #[.val (.int p0), .val (.long p1), .second, .val (.int p2), .val (.int (1 : Int32)), .val (.int (0 : Int32)), .val (.int (0 : Int32)), .val (.ref a201), .val (.int (1 : Int32)), .val (.ref a204), .val (.ref r210), .unset] [(.ref r210), (.int (0 : Int32)), (.ref r210)]) _ _ _
        refine Go.iconst X211 hx (hb hby at_185) ?_
        show Go _ _ _ _ T211 (mkF m 186 #[.val (.int p0), .val (.long p1), .second, .val (.int p2), .val (.int (1 : Int32)), .val (.int (0 : Int32)), .val (.int (0 : Int32)), .val (.ref a201), .val (.int (1 : Int32)), .val (.ref a204), .val (.ref r210), .unset] [(.int (0 : Int32)), (.ref r210), (.int (0 : Int32)), (.ref r210)]) _ _ _
        refine Go.baloadB X211 hx hZ e211 P210_2 (by decide) (by decide) (hb hby at_186) ?_
        show Go _ _ _ _ T211 (mkF m 187 #[.val (.int p0), .val (.long p1), .second, .val (.int p2), .val (.int (1 : Int32)), .val (.int (0 : Int32)), .val (.int (0 : Int32)), .val (.ref a201), .val (.int (1 : Int32)), .val (.ref a204), .val (.ref r210), .unset] [(.int ((fun i => (put4 (fun _ => (0 : Int32)) 4 p0) (i + 4)) 0)), (.int (0 : Int32)), (.ref r210)]) _ _ _
        refine Go.iconst X211 hx (hb hby at_187) ?_
        show Go _ _ _ _ T211 (mkF m 188 #[.val (.int p0), .val (.long p1), .second, .val (.int p2), .val (.int (1 : Int32)), .val (.int (0 : Int32)), .val (.int (0 : Int32)), .val (.ref a201), .val (.int (1 : Int32)), .val (.ref a204), .val (.ref r210), .unset] [(.int (1 : Int32)), (.int ((fun i => (put4 (fun _ => (0 : Int32)) 4 p0) (i + 4)) 0)), (.int (0 : Int32)), (.ref r210)]) _ _ _
        refine Go.ixor X211 hx (hb hby at_188) ?_
        show Go _ _ _ _ T211 (mkF m 189 #[.val (.int p0), .val (.long p1), .second, .val (.int p2), .val (.int (1 : Int32)), .val (.int (0 : Int32)), .val (.int (0 : Int32)), .val (.ref a201), .val (.int (1 : Int32)), .val (.ref a204), .val (.ref r210), .unset] [(.int (((fun i => (put4 (fun _ => (0 : Int32)) 4 p0) (i + 4)) 0) ^^^ (1 : Int32))), (.int (0 : Int32)), (.ref r210)]) _ _ _
        refine Go.i2b X211 hx (hb hby at_189) ?_
        show Go _ _ _ _ T211 (mkF m 190 #[.val (.int p0), .val (.long p1), .second, .val (.int p2), .val (.int (1 : Int32)), .val (.int (0 : Int32)), .val (.int (0 : Int32)), .val (.ref a201), .val (.int (1 : Int32)), .val (.ref a204), .val (.ref r210), .unset] [(.int (((((fun i => (put4 (fun _ => (0 : Int32)) 4 p0) (i + 4)) 0) ^^^ (1 : Int32))).toInt8.toInt32)), (.int (0 : Int32)), (.ref r210)]) _ _ _
        refine Go.bastoreB X211 hx hZ e211 P210_2 (by decide) (by decide) (hb hby at_190) ?_
        intro T212 h212 X212 e212 W212 A212
        have N212 := Fr.snoc X212 N211 P210_0
        have Z212 : n0 ≤ h212.size := by rw [Wr.size W212]; exact Z210
        have B212 : h0.size ≤ h212.size := by rw [Wr.size W212]; exact B210
        have A213 : Af Z h212 r210 kr210 .byte 4 (fun i => Value.int ((updI (fun i => (put4 (fun _ => (0 : Int32)) 4 p0) (i + 4)) 0 (((((((fun i => (put4 (fun _ => (0 : Int32)) 4 p0) (i + 4)) 0) ^^^ (1 : Int32))).toInt8.toInt32)).toInt8.toInt32)) i)) := Af.updI A212
        show Go _ _ _ _ T212 (mkF m 191 #[.val (.int p0), .val (.long p1), .second, .val (.int p2), .val (.int (1 : Int32)), .val (.int (0 : Int32)), .val (.int (0 : Int32)), .val (.ref a201), .val (.int (1 : Int32)), .val (.ref a204), .val (.ref r210), .unset] []) _ _ _
        refine Go.aload X212 hx (hb hby at_191) rfl rfl ?_
        show Go _ _ _ _ T212 (mkF m 193 #[.val (.int p0), .val (.long p1), .second, .val (.int p2), .val (.int (1 : Int32)), .val (.int (0 : Int32)), .val (.int (0 : Int32)), .val (.ref a201), .val (.int (1 : Int32)), .val (.ref a204), .val (.ref r210), .unset] [(.ref a204)]) _ _ _
        have F214 := (Af.other W212 (Af.keep F209 K210 nin0) ne_a201_r210)
        have F215 := (Af.other W212 (Af.keep P208_3 K210 nin0) ne_ab207_r210)
        have F216 := (Fld.other W212 (Fld.keep P208_1 K210 nin0) (Or.inl ne_a204_r210))
        have F217 := (Fld.other W212 (Fld.keep P208_2 K210 nin0) (Or.inl ne_a204_r210))
        refine Go.callV (W := 0) (argsL := []) (rest := []) X212 hx hZ hown (w28 hw) (w29 hw) (w31 hw) (w30 hw) (w3 hw) (w32 hw) (notFace_of_selects (args := #[]) (mvT hZ (w31 hw))) (by decide) (Exa.wr W212 (Exa.keep P208_0 K210)) (rm_tb1 l Z a0 hw a204 ab207 kb207 (put4 (fun _ => (0 : Int32)) 4 p0) h212 n0 Z212 (okB_put okB0) F216 F217 F215) e212 (lenOf pd_6 rfl) (hb hby at_193) (by rw [hml]; rfl) rfl (Nat.le_of_eq rfl) (by decide) (by decide) (by decide) (by decide) ?_
        intro v218 T218 L218 X218 q218
        obtain ⟨r218, kr218, rfl, M218, K218, P218_0, P218_1, P218_2⟩ := q218
        have N218 := Fr.app N212 M218
        have Z218 : n0 ≤ T218.heap.size := Nat.le_trans Z212 K218.1
        have B218 : h0.size ≤ T218.heap.size := Nat.le_trans B212 K218.1
        have ne_a201_r218 : a201 ≠ r218 := Nat.ne_of_lt (Nat.lt_of_lt_of_le (F214).lt P218_1)
        have ne_a204_r218 : a204 ≠ r218 := Nat.ne_of_lt (Nat.lt_of_lt_of_le ((Exa.wr W212 (Exa.keep P208_0 K210))).lt P218_1)
        have ne_ab207_r218 : ab207 ≠ r218 := Nat.ne_of_lt (Nat.lt_of_lt_of_le (F215).lt P218_1)
        have ne_r210_r218 : r210 ≠ r218 := Nat.ne_of_lt (Nat.lt_of_lt_of_le (A213).lt P218_1)
        show Go _ _ _ _ T218 (mkF m 196 #[.val (.int p0), .val (.long p1), .second, .val (.int p2), .val (.int (1 : Int32)), .val (.int (0 : Int32)), .val (.int (0 : Int32)), .val (.ref a201), .val (.int (1 : Int32)), .val (.ref a204), .val (.ref r210), .unset] [(.ref r218)]) _ _ _
        refine Go.astore X218 hx (hb hby at_196) rfl (l' := #[.val (.int p0), .val (.long p1), .second, .val (.int p2), .val (.int (1 : Int32)), .val (.int (0 : Int32)), .val (.int (0 : Int32)), .val (.ref a201), .val (.int (1 : Int32)), .val (.ref a204), .val (.ref r210), .val (.ref r218)]) rfl ?_
        show Go _ _ _ _ T218 (mkF m 198 #[.val (.int p0), .val (.long p1), .second, .val (.int p2), .val (.int (1 : Int32)), .val (.int (0 : Int32)), .val (.int (0 : Int32)), .val (.ref a201), .val (.int (1 : Int32)), .val (.ref a204), .val (.ref r210), .val (.ref r218)] []) _ _ _
        refine Go.aload X218 hx (hb hby at_198) rfl rfl ?_
        show Go _ _ _ _ T218 (mkF m 200 #[.val (.int p0), .val (.long p1), .second, .val (.int p2), .val (.int (1 : Int32)), .val (.int (0 : Int32)), .val (.int (0 : Int32)), .val (.ref a201), .val (.int (1 : Int32)), .val (.ref a204), .val (.ref r210), .val (.ref r218)] [(.ref r218)]) _ _ _
        refine Go.aload X218 hx (hb hby at_200) rfl rfl ?_
        show Go _ _ _ _ T218 (mkF m 202 #[.val (.int p0), .val (.long p1), .second, .val (.int p2), .val (.int (1 : Int32)), .val (.int (0 : Int32)), .val (.int (0 : Int32)), .val (.ref a201), .val (.int (1 : Int32)), .val (.ref a204), .val (.ref r210), .val (.ref r218)] [(.ref a201), (.ref r218)]) _ _ _
        refine Go.iload X218 hx (hb hby at_202) rfl ?_
        show Go _ _ _ _ T218 (mkF m 204 #[.val (.int p0), .val (.long p1), .second, .val (.int p2), .val (.int (1 : Int32)), .val (.int (0 : Int32)), .val (.int (0 : Int32)), .val (.ref a201), .val (.int (1 : Int32)), .val (.ref a204), .val (.ref r210), .val (.ref r218)] [(.int (1 : Int32)), (.ref a201), (.ref r218)]) _ _ _
        refine Go.callS (W := 0) (argsL := [(.ref r218), (.ref a201), (.int (1 : Int32))]) (rest := []) X218 hx hZ hown (w51 hw) (w52 hw) (w53 hw) (w54 hw) (by decide) (rm_ma1 l Z a0 hw r218 a201 kr218 (fun i => (put4 (fun _ => (0 : Int32)) 4 p0) (i + 4)) k201 (updI (fun _ => (0 : Int32)) 0 p0) T218.heap n0 Z218 P218_2 (Af.keep F214 K218 nin0) (unit_eq p0)) rfl (lenOf pd_7 rfl) (hb hby at_204) (by rw [hml]; rfl) rfl (Nat.le_of_eq rfl) (by decide) (by decide) (by decide) (by decide) ?_
        intro v219 T219 L219 X219 q219
        obtain ⟨rfl, M219, e219⟩ := q219
        have N219 := Fr.app N218 M219
        show Go _ _ _ _ T219 (mkF m 207 #[.val (.int p0), .val (.long p1), .second, .val (.int p2), .val (.int (1 : Int32)), .val (.int (0 : Int32)), .val (.int (0 : Int32)), .val (.ref a201), .val (.int (1 : Int32)), .val (.ref a204), .val (.ref r210), .val (.ref r218)] [(.int (1 : Int32))]) _ _ _
        refine Go.retZ X219 hx hlk hret (by decide) (hb hby at_207) (by decide) (by decide) ?_
        rw [e219]
        exact ⟨rfl, N219⟩
      · refine Go.ifNo X0 hx (hb hby at_29) (XT.i0_eq_f c200) ?_
        show Go _ _ _ _ s₁ (mkF m 32 #[.val (.int p0), .val (.long p1), .second, .val (.int p2), .val (.int (1 : Int32)), .val (.int (0 : Int32)), .unset, .unset, .unset, .unset, .unset, .unset] []) _ _ _
        refine Go.iconst X0 hx (hb hby at_32) ?_
        show Go _ _ _ _ s₁ (mkF m 33 #[.val (.int p0), .val (.long p1), .second, .val (.int p2), .val (.int (1 : Int32)), .val (.int (0 : Int32)), .unset, .unset, .unset, .unset, .unset, .unset] [(.int (1 : Int32))]) _ _ _
        refine Go.goto X0 hx (hb hby at_33) (pc' := 37) (by decide) (by decide) ?_
        show Go _ _ _ _ s₁ (mkF m 37 #[.val (.int p0), .val (.long p1), .second, .val (.int p2), .val (.int (1 : Int32)), .val (.int (0 : Int32)), .unset, .unset, .unset, .unset, .unset, .unset] [(.int (1 : Int32))]) _ _ _
        refine Go.istore X0 hx (hb hby at_37) (l' := #[.val (.int p0), .val (.long p1), .second, .val (.int p2), .val (.int (1 : Int32)), .val (.int (0 : Int32)), .val (.int (1 : Int32)), .unset, .unset, .unset, .unset, .unset]) rfl ?_
        show Go _ _ _ _ s₁ (mkF m 39 #[.val (.int p0), .val (.long p1), .second, .val (.int p2), .val (.int (1 : Int32)), .val (.int (0 : Int32)), .val (.int (1 : Int32)), .unset, .unset, .unset, .unset, .unset] []) _ _ _
        refine Go.iconst X0 hx (hb hby at_39) ?_
        show Go _ _ _ _ s₁ (mkF m 40 #[.val (.int p0), .val (.long p1), .second, .val (.int p2), .val (.int (1 : Int32)), .val (.int (0 : Int32)), .val (.int (1 : Int32)), .unset, .unset, .unset, .unset, .unset] [(.int (3 : Int32))]) _ _ _
        refine Go.newarray (aty := .int) (cap := 3) X0 hx hZ (w0 hw) e0 (hb hby at_40) (by decide) (by decide) (by decide) (by decide) (by decide) ?_
        intro T220 h220 a220 k220 b220 X220 e220 E220 A220
        have g_a220 : n0 ≤ a220 := by rw [b220]; exact Z0
        have y_a220 : h0.size ≤ a220 := by rw [b220]; exact (Nat.le_refl _)
        have Z220 : n0 ≤ h220.size := Nat.le_trans Z0 E220.1
        have B220 : h0.size ≤ h220.size := Nat.le_trans (Nat.le_refl _) E220.1
        show Go _ _ _ _ T220 (mkF m 42 #[.val (.int p0), .val (.long p1), .second, .val (.int p2), .val (.int (1 : Int32)), .val (.int (0 : Int32)), .val (.int (1 : Int32)), .unset, .unset, .unset, .unset, .unset] [(.ref a220)]) _ _ _
        refine Go.astore X220 hx (hb hby at_42) rfl (l' := #[.val (.int p0), .val (.long p1), .second, .val (.int p2), .val (.int (1 : Int32)), .val (.int (0 : Int32)), .val (.int (1 : Int32)), .val (.ref a220), .unset, .unset, .unset, .unset]) rfl ?_
        show Go _ _ _ _ T220 (mkF m 44 #[.val (.int p0), .val (.long p1), .second, .val (.int p2), .val (.int (1 : Int32)), .val (.int (0 : Int32)), .val (.int (1 : Int32)), .val (.ref a220), .unset, .unset, .unset, .unset] []) _ _ _
        refine Go.iconst X220 hx (hb hby at_44) ?_
        show Go _ _ _ _ T220 (mkF m 45 #[.val (.int p0), .val (.long p1), .second, .val (.int p2), .val (.int (1 : Int32)), .val (.int (0 : Int32)), .val (.int (1 : Int32)), .val (.ref a220), .unset, .unset, .unset, .unset] [(.int (0 : Int32))]) _ _ _
        refine Go.istore X220 hx (hb hby at_45) (l' := #[.val (.int p0), .val (.long p1), .second, .val (.int p2), .val (.int (1 : Int32)), .val (.int (0 : Int32)), .val (.int (1 : Int32)), .val (.ref a220), .val (.int (0 : Int32)), .unset, .unset, .unset]) rfl ?_
        show Go _ _ _ _ T220 (mkF m 47 #[.val (.int p0), .val (.long p1), .second, .val (.int p2), .val (.int (1 : Int32)), .val (.int (0 : Int32)), .val (.int (1 : Int32)), .val (.ref a220), .val (.int (0 : Int32)), .unset, .unset, .unset] []) _ _ _
        refine Go.iload X220 hx (hb hby at_47) rfl ?_
        show Go _ _ _ _ T220 (mkF m 49 #[.val (.int p0), .val (.long p1), .second, .val (.int p2), .val (.int (1 : Int32)), .val (.int (0 : Int32)), .val (.int (1 : Int32)), .val (.ref a220), .val (.int (0 : Int32)), .unset, .unset, .unset] [(.int (1 : Int32))]) _ _ _
        refine Go.ifNo X220 hx (hb hby at_49) (XT.i0_eq_f (by decide)) ?_
        show Go _ _ _ _ T220 (mkF m 52 #[.val (.int p0), .val (.long p1), .second, .val (.int p2), .val (.int (1 : Int32)), .val (.int (0 : Int32)), .val (.int (1 : Int32)), .val (.ref a220), .val (.int (0 : Int32)), .unset, .unset, .unset] []) _ _ _
        refine Go.aload X220 hx (hb hby at_52) rfl rfl ?_
        show Go _ _ _ _ T220 (mkF m 54 #[.val (.int p0), .val (.long p1), .second, .val (.int p2), .val (.int (1 : Int32)), .val (.int (0 : Int32)), .val (.int (1 : Int32)), .val (.ref a220), .val (.int (0 : Int32)), .unset, .unset, .unset] [(.ref a220)]) _ _ _
        refine Go.iload X220 hx (hb hby at_54) rfl ?_
        show Go _ _ _ _ T220 (mkF m 56 #[.val (.int p0), .val (.long p1), .second, .val (.int p2), .val (.int (1 : Int32)), .val (.int (0 : Int32)), .val (.int (1 : Int32)), .val (.ref a220), .val (.int (0 : Int32)), .unset, .unset, .unset] [(.int (0 : Int32)), (.ref a220)]) _ _ _
        refine Go.iloadN X220 hx (hb hby at_56) rfl ?_
        show Go _ _ _ _ T220 (mkF m 57 #[.val (.int p0), .val (.long p1), .second, .val (.int p2), .val (.int (1 : Int32)), .val (.int (0 : Int32)), .val (.int (1 : Int32)), .val (.ref a220), .val (.int (0 : Int32)), .unset, .unset, .unset] [(.int p0), (.int (0 : Int32)), (.ref a220)]) _ _ _
        refine Go.iastore X220 hx hZ e220 A220 (by decide) (by decide) (hb hby at_57) ?_
        intro T221 h221 X221 e221 W221 A221
        have N221 := Fr.snoc X221 N0 g_a220
        have Z221 : n0 ≤ h221.size := by rw [Wr.size W221]; exact Z220
        have B221 : h0.size ≤ h221.size := by rw [Wr.size W221]; exact B220
        have A222 : Af Z h221 a220 k220 .int 3 (fun i => Value.int ((updI (fun _ => (0 : Int32)) 0 p0) i)) := Af.updI A221
        show Go _ _ _ _ T221 (mkF m 58 #[.val (.int p0), .val (.long p1), .second, .val (.int p2), .val (.int (1 : Int32)), .val (.int (0 : Int32)), .val (.int (1 : Int32)), .val (.ref a220), .val (.int (0 : Int32)), .unset, .unset, .unset] []) _ _ _
        refine Go.iload X221 hx (hb hby at_58) rfl ?_
        show Go _ _ _ _ T221 (mkF m 60 #[.val (.int p0), .val (.long p1), .second, .val (.int p2), .val (.int (1 : Int32)), .val (.int (0 : Int32)), .val (.int (1 : Int32)), .val (.ref a220), .val (.int (0 : Int32)), .unset, .unset, .unset] [(.int (0 : Int32))]) _ _ _
        refine Go.iconst X221 hx (hb hby at_60) ?_
        show Go _ _ _ _ T221 (mkF m 61 #[.val (.int p0), .val (.long p1), .second, .val (.int p2), .val (.int (1 : Int32)), .val (.int (0 : Int32)), .val (.int (1 : Int32)), .val (.ref a220), .val (.int (0 : Int32)), .unset, .unset, .unset] [(.int (1 : Int32)), (.int (0 : Int32))]) _ _ _
        refine Go.iadd X221 hx (hb hby at_61) ?_
        show Go _ _ _ _ T221 (mkF m 62 #[.val (.int p0), .val (.long p1), .second, .val (.int p2), .val (.int (1 : Int32)), .val (.int (0 : Int32)), .val (.int (1 : Int32)), .val (.ref a220), .val (.int (0 : Int32)), .unset, .unset, .unset] [(.int (1 : Int32))]) _ _ _
        refine Go.istore X221 hx (hb hby at_62) (l' := #[.val (.int p0), .val (.long p1), .second, .val (.int p2), .val (.int (1 : Int32)), .val (.int (0 : Int32)), .val (.int (1 : Int32)), .val (.ref a220), .val (.int (1 : Int32)), .unset, .unset, .unset]) rfl ?_
        show Go _ _ _ _ T221 (mkF m 64 #[.val (.int p0), .val (.long p1), .second, .val (.int p2), .val (.int (1 : Int32)), .val (.int (0 : Int32)), .val (.int (1 : Int32)), .val (.ref a220), .val (.int (1 : Int32)), .unset, .unset, .unset] []) _ _ _
        refine Go.iload X221 hx (hb hby at_64) rfl ?_
        show Go _ _ _ _ T221 (mkF m 66 #[.val (.int p0), .val (.long p1), .second, .val (.int p2), .val (.int (1 : Int32)), .val (.int (0 : Int32)), .val (.int (1 : Int32)), .val (.ref a220), .val (.int (1 : Int32)), .unset, .unset, .unset] [(.int (0 : Int32))]) _ _ _
        refine Go.ifYes X221 hx (hb hby at_66) (XT.i0_eq_t (by decide)) (pc' := 94) (by decide) (by decide) ?_
        show Go _ _ _ _ T221 (mkF m 94 #[.val (.int p0), .val (.long p1), .second, .val (.int p2), .val (.int (1 : Int32)), .val (.int (0 : Int32)), .val (.int (1 : Int32)), .val (.ref a220), .val (.int (1 : Int32)), .unset, .unset, .unset] []) _ _ _
        refine Go.newO X221 hx hZ hown (w1 hw) (w2 hw) (w3 hw) e221 (hb hby at_94) (by decide) (by decide) ?_
        intro T223 h223 a223 b223 X223 e223 E223 A223 D223
        have g_a223 : n0 ≤ a223 := by rw [b223]; exact Z221
        have y_a223 : h0.size ≤ a223 := by rw [b223]; exact B221
        have ne_a220_a223 : a220 ≠ a223 := by rw [b223]; exact Nat.ne_of_lt A222.lt
        have Z223 : n0 ≤ h223.size := Nat.le_trans Z221 E223.1
        have B223 : h0.size ≤ h223.size := Nat.le_trans B221 E223.1
        show Go _ _ _ _ T223 (mkF m 97 #[.val (.int p0), .val (.long p1), .second, .val (.int p2), .val (.int (1 : Int32)), .val (.int (0 : Int32)), .val (.int (1 : Int32)), .val (.ref a220), .val (.int (1 : Int32)), .unset, .unset, .unset] [(.ref a223)]) _ _ _
        refine Go.dup X223 hx (hb hby at_97) rfl ?_
        show Go _ _ _ _ T223 (mkF m 98 #[.val (.int p0), .val (.long p1), .second, .val (.int p2), .val (.int (1 : Int32)), .val (.int (0 : Int32)), .val (.int (1 : Int32)), .val (.ref a220), .val (.int (1 : Int32)), .unset, .unset, .unset] [(.ref a223), (.ref a223)]) _ _ _
        have F224 := (D223 (Or.inl (w12 hw)) (ty := (.array .byte)) (by decide))
        have F225 := (D223 (Or.inl (w14 hw)) (ty := .int) (by decide))
        refine Go.callI (W := 1) (a := a223) (argsL := []) (rest := [(.ref a223)]) X223 hx hZ hown rfl (w4 hw) (w5 hw) (w3 hw) (w6 hw) (by decide) (rm_init l Z a0 hw a223 h223 n0 Z223 A223 g_a223 F224 F225) e223 (lenOf pd_5 rfl) (hb hby at_98) (by rw [hml]; rfl) rfl (Nat.le_of_eq rfl) (by decide) (by decide) (by decide) (by decide) ?_
        intro v226 T226 L226 X226 q226
        obtain ⟨ab226, kb226, rfl, M226, K226, P226_0, P226_1, P226_2, P226_3, P226_4, P226_5, P226_6⟩ := q226
        have N226 := Fr.app N221 M226
        have Z226 : n0 ≤ T226.heap.size := Nat.le_trans Z223 K226.1
        have B226 : h0.size ≤ T226.heap.size := Nat.le_trans B223 K226.1
        have ne_a220_ab226 : a220 ≠ ab226 := Nat.ne_of_lt (Nat.lt_of_lt_of_le ((Af.ext E223 A222)).lt P226_2)
        have ne_a223_ab226 : a223 ≠ ab226 := Nat.ne_of_lt (Nat.lt_of_lt_of_le (A223).lt P226_2)
        show Go _ _ _ _ T226 (mkF m 101 #[.val (.int p0), .val (.long p1), .second, .val (.int p2), .val (.int (1 : Int32)), .val (.int (0 : Int32)), .val (.int (1 : Int32)), .val (.ref a220), .val (.int (1 : Int32)), .unset, .unset, .unset] [(.ref a223)]) _ _ _
        refine Go.astore X226 hx (hb hby at_101) rfl (l' := #[.val (.int p0), .val (.long p1), .second, .val (.int p2), .val (.int (1 : Int32)), .val (.int (0 : Int32)), .val (.int (1 : Int32)), .val (.ref a220), .val (.int (1 : Int32)), .val (.ref a223), .unset, .unset]) rfl ?_
        show Go _ _ _ _ T226 (mkF m 103 #[.val (.int p0), .val (.long p1), .second, .val (.int p2), .val (.int (1 : Int32)), .val (.int (0 : Int32)), .val (.int (1 : Int32)), .val (.ref a220), .val (.int (1 : Int32)), .val (.ref a223), .unset, .unset] []) _ _ _
        refine Go.iload X226 hx (hb hby at_103) rfl ?_
        show Go _ _ _ _ T226 (mkF m 105 #[.val (.int p0), .val (.long p1), .second, .val (.int p2), .val (.int (1 : Int32)), .val (.int (0 : Int32)), .val (.int (1 : Int32)), .val (.ref a220), .val (.int (1 : Int32)), .val (.ref a223), .unset, .unset] [(.int (1 : Int32))]) _ _ _
        refine Go.ifNo X226 hx (hb hby at_105) (XT.i0_eq_f (by decide)) ?_
        show Go _ _ _ _ T226 (mkF m 108 #[.val (.int p0), .val (.long p1), .second, .val (.int p2), .val (.int (1 : Int32)), .val (.int (0 : Int32)), .val (.int (1 : Int32)), .val (.ref a220), .val (.int (1 : Int32)), .val (.ref a223), .unset, .unset] []) _ _ _
        refine Go.aload X226 hx (hb hby at_108) rfl rfl ?_
        show Go _ _ _ _ T226 (mkF m 110 #[.val (.int p0), .val (.long p1), .second, .val (.int p2), .val (.int (1 : Int32)), .val (.int (0 : Int32)), .val (.int (1 : Int32)), .val (.ref a220), .val (.int (1 : Int32)), .val (.ref a223), .unset, .unset] [(.ref a223)]) _ _ _
        refine Go.lloadN X226 hx (hb hby at_110) rfl ?_
        show Go _ _ _ _ T226 (mkF m 111 #[.val (.int p0), .val (.long p1), .second, .val (.int p2), .val (.int (1 : Int32)), .val (.int (0 : Int32)), .val (.int (1 : Int32)), .val (.ref a220), .val (.int (1 : Int32)), .val (.ref a223), .unset, .unset] [(.long p1), (.ref a223)]) _ _ _
        refine Go.ldc2 X226 hx hZ hown (w64 hw) (hb hby at_111) ?_
        show Go _ _ _ _ T226 (mkF m 114 #[.val (.int p0), .val (.long p1), .second, .val (.int p2), .val (.int (1 : Int32)), .val (.int (0 : Int32)), .val (.int (1 : Int32)), .val (.ref a220), .val (.int (1 : Int32)), .val (.ref a223), .unset, .unset] [(.long (-1 : Int64)), (.long p1), (.ref a223)]) _ _ _
        refine Go.lxor X226 hx (hb hby at_114) ?_
        show Go _ _ _ _ T226 (mkF m 115 #[.val (.int p0), .val (.long p1), .second, .val (.int p2), .val (.int (1 : Int32)), .val (.int (0 : Int32)), .val (.int (1 : Int32)), .val (.ref a220), .val (.int (1 : Int32)), .val (.ref a223), .unset, .unset] [(.long (p1 ^^^ (-1 : Int64))), (.ref a223)]) _ _ _
        refine Go.callV (W := 0) (argsL := [(.long (p1 ^^^ (-1 : Int64)))]) (rest := []) X226 hx hZ hown (w58 hw) (w59 hw) (w61 hw) (w60 hw) (w3 hw) (w62 hw) (notFace_of_selects (args := #[]) (mvT hZ (w61 hw))) (by decide) P226_0 (rm_wl4 l Z a0 hw a223 (p1 ^^^ (-1 : Int64)) ab226 kb226 (fun _ => (0 : Int32)) T226.heap n0 Z226 P226_0 g_a223 P226_1 P226_3 P226_4 P226_6 P226_5) rfl (lenOf pd_8 rfl) (hb hby at_115) (by rw [hml]; rfl) rfl (Nat.le_of_eq rfl) (by decide) (by decide) (by decide) (by decide) ?_
        intro v227 T227 L227 X227 q227
        obtain ⟨rfl, M227, K227, P227_0, P227_1, P227_2, P227_3⟩ := q227
        have N227 := Fr.app N226 M227
        have Z227 : n0 ≤ T227.heap.size := Nat.le_trans Z226 K227.1
        have B227 : h0.size ≤ T227.heap.size := Nat.le_trans B226 K227.1
        show Go _ _ _ _ T227 (mkF m 118 #[.val (.int p0), .val (.long p1), .second, .val (.int p2), .val (.int (1 : Int32)), .val (.int (0 : Int32)), .val (.int (1 : Int32)), .val (.ref a220), .val (.int (1 : Int32)), .val (.ref a223), .unset, .unset] []) _ _ _
        refine Go.aload X227 hx (hb hby at_118) rfl rfl ?_
        show Go _ _ _ _ T227 (mkF m 120 #[.val (.int p0), .val (.long p1), .second, .val (.int p2), .val (.int (1 : Int32)), .val (.int (0 : Int32)), .val (.int (1 : Int32)), .val (.ref a220), .val (.int (1 : Int32)), .val (.ref a223), .unset, .unset] [(.ref a223)]) _ _ _
        refine Go.iloadN X227 hx (hb hby at_120) rfl ?_
        show Go _ _ _ _ T227 (mkF m 121 #[.val (.int p0), .val (.long p1), .second, .val (.int p2), .val (.int (1 : Int32)), .val (.int (0 : Int32)), .val (.int (1 : Int32)), .val (.ref a220), .val (.int (1 : Int32)), .val (.ref a223), .unset, .unset] [(.int p0), (.ref a223)]) _ _ _
        refine Go.iconst X227 hx (hb hby at_121) ?_
        show Go _ _ _ _ T227 (mkF m 122 #[.val (.int p0), .val (.long p1), .second, .val (.int p2), .val (.int (1 : Int32)), .val (.int (0 : Int32)), .val (.int (1 : Int32)), .val (.ref a220), .val (.int (1 : Int32)), .val (.ref a223), .unset, .unset] [(.int (-1 : Int32)), (.int p0), (.ref a223)]) _ _ _
        refine Go.ixor X227 hx (hb hby at_122) ?_
        show Go _ _ _ _ T227 (mkF m 123 #[.val (.int p0), .val (.long p1), .second, .val (.int p2), .val (.int (1 : Int32)), .val (.int (0 : Int32)), .val (.int (1 : Int32)), .val (.ref a220), .val (.int (1 : Int32)), .val (.ref a223), .unset, .unset] [(.int (p0 ^^^ (-1 : Int32))), (.ref a223)]) _ _ _
        refine Go.callV (W := 0) (argsL := [(.int (p0 ^^^ (-1 : Int32)))]) (rest := []) X227 hx hZ hown (w15 hw) (w16 hw) (w18 hw) (w17 hw) (w3 hw) (w19 hw) (notFace_of_selects (args := #[]) (mvT hZ (w18 hw))) (by decide) P227_0 (rm_wi12 l Z a0 hw a223 (p0 ^^^ (-1 : Int32)) ab226 kb226 (put4 (put4 (fun _ => (0 : Int32)) 4 ((XT.ushrL (p1 ^^^ (-1 : Int64)) (32 : Int32)).toInt32)) 8 (((p1 ^^^ (-1 : Int64))).toInt32)) T227.heap n0 Z227 P227_0 g_a223 P226_1 P226_3 P227_1 P227_3 P227_2) rfl (lenOf pd_0 rfl) (hb hby at_123) (by rw [hml]; rfl) rfl (Nat.le_of_eq rfl) (by decide) (by decide) (by decide) (by decide) ?_
        intro v228 T228 L228 X228 q228
        obtain ⟨rfl, M228, K228, P228_0, P228_1, P228_2, P228_3⟩ := q228
        have N228 := Fr.app N227 M228
        have Z228 : n0 ≤ T228.heap.size := Nat.le_trans Z227 K228.1
        have B228 : h0.size ≤ T228.heap.size := Nat.le_trans B227 K228.1
        show Go _ _ _ _ T228 (mkF m 126 #[.val (.int p0), .val (.long p1), .second, .val (.int p2), .val (.int (1 : Int32)), .val (.int (0 : Int32)), .val (.int (1 : Int32)), .val (.ref a220), .val (.int (1 : Int32)), .val (.ref a223), .unset, .unset] []) _ _ _
        refine Go.aload X228 hx (hb hby at_126) rfl rfl ?_
        show Go _ _ _ _ T228 (mkF m 128 #[.val (.int p0), .val (.long p1), .second, .val (.int p2), .val (.int (1 : Int32)), .val (.int (0 : Int32)), .val (.int (1 : Int32)), .val (.ref a220), .val (.int (1 : Int32)), .val (.ref a223), .unset, .unset] [(.ref a223)]) _ _ _
        refine Go.callV (W := 0) (argsL := []) (rest := []) X228 hx hZ hown (w65 hw) (w66 hw) (w68 hw) (w67 hw) (w3 hw) (w69 hw) (notFace_of_selects (args := #[]) (mvT hZ (w68 hw))) (by decide) P228_0 (rm_rs l Z a0 hw a223 (16 : Int32) ab226 T228.heap n0 Z228 P228_0 g_a223 P228_2 P228_1) rfl (lenOf pd_5 rfl) (hb hby at_128) (by rw [hml]; rfl) rfl (Nat.le_of_eq rfl) (by decide) (by decide) (by decide) (by decide) ?_
        intro v229 T229 L229 X229 q229
        obtain ⟨rfl, M229, K229, P229_0, P229_1, P229_2⟩ := q229
        have N229 := Fr.app N228 M229
        have Z229 : n0 ≤ T229.heap.size := Nat.le_trans Z228 K229.1
        have B229 : h0.size ≤ T229.heap.size := Nat.le_trans B228 K229.1
        show Go _ _ _ _ T229 (mkF m 131 #[.val (.int p0), .val (.long p1), .second, .val (.int p2), .val (.int (1 : Int32)), .val (.int (0 : Int32)), .val (.int (1 : Int32)), .val (.ref a220), .val (.int (1 : Int32)), .val (.ref a223), .unset, .unset] []) _ _ _
        refine Go.iload X229 hx (hb hby at_131) rfl ?_
        show Go _ _ _ _ T229 (mkF m 133 #[.val (.int p0), .val (.long p1), .second, .val (.int p2), .val (.int (1 : Int32)), .val (.int (0 : Int32)), .val (.int (1 : Int32)), .val (.ref a220), .val (.int (1 : Int32)), .val (.ref a223), .unset, .unset] [(.int (1 : Int32))]) _ _ _
        refine Go.ifNo X229 hx (hb hby at_133) (XT.i0_eq_f (by decide)) ?_
        show Go _ _ _ _ T229 (mkF m 136 #[.val (.int p0), .val (.long p1), .second, .val (.int p2), .val (.int (1 : Int32)), .val (.int (0 : Int32)), .val (.int (1 : Int32)), .val (.ref a220), .val (.int (1 : Int32)), .val (.ref a223), .unset, .unset] []) _ _ _
        refine Go.aload X229 hx (hb hby at_136) rfl rfl ?_
        show Go _ _ _ _ T229 (mkF m 138 #[.val (.int p0), .val (.long p1), .second, .val (.int p2), .val (.int (1 : Int32)), .val (.int (0 : Int32)), .val (.int (1 : Int32)), .val (.ref a220), .val (.int (1 : Int32)), .val (.ref a223), .unset, .unset] [(.ref a223)]) _ _ _
        refine Go.iloadN X229 hx (hb hby at_138) rfl ?_
        show Go _ _ _ _ T229 (mkF m 139 #[.val (.int p0), .val (.long p1), .second, .val (.int p2), .val (.int (1 : Int32)), .val (.int (0 : Int32)), .val (.int (1 : Int32)), .val (.ref a220), .val (.int (1 : Int32)), .val (.ref a223), .unset, .unset] [(.int p0), (.ref a223)]) _ _ _
        have F230 := (Af.keep P228_3 K229 (ninS (Ne.symm P226_3) nin0))
        refine Go.callV (W := 0) (argsL := [(.int p0)]) (rest := []) X229 hx hZ hown (w15 hw) (w16 hw) (w18 hw) (w17 hw) (w3 hw) (w19 hw) (notFace_of_selects (args := #[]) (mvT hZ (w18 hw))) (by decide) P229_0 (rm_wi4 l Z a0 hw a223 p0 ab226 kb226 (put4 (put4 (put4 (fun _ => (0 : Int32)) 4 ((XT.ushrL (p1 ^^^ (-1 : Int64)) (32 : Int32)).toInt32)) 8 (((p1 ^^^ (-1 : Int64))).toInt32)) 12 (p0 ^^^ (-1 : Int32))) T229.heap n0 Z229 P229_0 g_a223 P226_1 P226_3 P229_2 F230 P229_1) rfl (lenOf pd_0 rfl) (hb hby at_139) (by rw [hml]; rfl) rfl (Nat.le_of_eq rfl) (by decide) (by decide) (by decide) (by decide) ?_
        intro v231 T231 L231 X231 q231
        obtain ⟨rfl, M231, K231, P231_0, P231_1, P231_2, P231_3⟩ := q231
        have N231 := Fr.app N229 M231
        have Z231 : n0 ≤ T231.heap.size := Nat.le_trans Z229 K231.1
        have B231 : h0.size ≤ T231.heap.size := Nat.le_trans B229 K231.1
        show Go _ _ _ _ T231 (mkF m 142 #[.val (.int p0), .val (.long p1), .second, .val (.int p2), .val (.int (1 : Int32)), .val (.int (0 : Int32)), .val (.int (1 : Int32)), .val (.ref a220), .val (.int (1 : Int32)), .val (.ref a223), .unset, .unset] []) _ _ _
        refine Go.iload X231 hx (hb hby at_142) rfl ?_
        show Go _ _ _ _ T231 (mkF m 144 #[.val (.int p0), .val (.long p1), .second, .val (.int p2), .val (.int (1 : Int32)), .val (.int (0 : Int32)), .val (.int (1 : Int32)), .val (.ref a220), .val (.int (1 : Int32)), .val (.ref a223), .unset, .unset] [(.int (0 : Int32))]) _ _ _
        refine Go.ifYes X231 hx (hb hby at_144) (XT.i0_eq_t (by decide)) (pc' := 153) (by decide) (by decide) ?_
        show Go _ _ _ _ T231 (mkF m 153 #[.val (.int p0), .val (.long p1), .second, .val (.int p2), .val (.int (1 : Int32)), .val (.int (0 : Int32)), .val (.int (1 : Int32)), .val (.ref a220), .val (.int (1 : Int32)), .val (.ref a223), .unset, .unset] []) _ _ _
        refine Go.aload X231 hx (hb hby at_153) rfl rfl ?_
        show Go _ _ _ _ T231 (mkF m 155 #[.val (.int p0), .val (.long p1), .second, .val (.int p2), .val (.int (1 : Int32)), .val (.int (0 : Int32)), .val (.int (1 : Int32)), .val (.ref a220), .val (.int (1 : Int32)), .val (.ref a223), .unset, .unset] [(.ref a223)]) _ _ _
        have F232 := (Af.keep (Af.keep (Af.keep (Af.keep (Af.keep (Af.ext E223 A222) K226 (ninS ne_a220_a223 nin0)) K227 (ninS ne_a220_a223 (ninS ne_a220_ab226 nin0))) K228 (ninS ne_a220_a223 (ninS ne_a220_ab226 nin0))) K229 (ninS ne_a220_a223 nin0)) K231 (ninS ne_a220_a223 (ninS ne_a220_ab226 nin0)))
        refine Go.callV (W := 0) (argsL := []) (rest := []) X231 hx hZ hown (w28 hw) (w29 hw) (w31 hw) (w30 hw) (w3 hw) (w32 hw) (notFace_of_selects (args := #[]) (mvT hZ (w31 hw))) (by decide) P231_0 (rm_tb1 l Z a0 hw a223 ab226 kb226 (put4 (put4 (put4 (put4 (fun _ => (0 : Int32)) 4 ((XT.ushrL (p1 ^^^ (-1 : Int64)) (32 : Int32)).toInt32)) 8 (((p1 ^^^ (-1 : Int64))).toInt32)) 12 (p0 ^^^ (-1 : Int32))) 4 p0) T231.heap n0 Z231 (okB_put (okB_put (okB_put (okB_put okB0)))) P231_1 P231_2 P231_3) rfl (lenOf pd_6 rfl) (hb hby at_155) (by rw [hml]; rfl) rfl (Nat.le_of_eq rfl) (by decide) (by decide) (by decide) (by decide) ?_
        intro v233 T233 L233 X233 q233
        obtain ⟨r233, kr233, rfl, M233, K233, P233_0, P233_1, P233_2⟩ := q233
        have N233 := Fr.app N231 M233
        have Z233 : n0 ≤ T233.heap.size := Nat.le_trans Z231 K233.1
        have B233 : h0.size ≤ T233.heap.size := Nat.le_trans B231 K233.1
        have ne_a220_r233 : a220 ≠ r233 := Nat.ne_of_lt (Nat.lt_of_lt_of_le (F232).lt P233_1)
        have ne_a223_r233 : a223 ≠ r233 := Nat.ne_of_lt (Nat.lt_of_lt_of_le (P231_0).lt P233_1)
        have ne_ab226_r233 : ab226 ≠ r233 := Nat.ne_of_lt (Nat.lt_of_lt_of_le (P231_3).lt P233_1)
        show Go _ _ _ _ T233 (mkF m 158 #[.val (.int p0), .val (.long p1), .second, .val (.int p2), .val (.int (1 : Int32)), .val (.int (0 : Int32)), .val (.int (1 : Int32)), .val (.ref a220), .val (.int (1 : Int32)), .val (.ref a223), .unset, .unset] [(.ref r233)]) _ _ _
        refine Go.astore X233 hx (hb hby at_158) rfl (l' := #[.val (.int p0), .val (.long p1), .second, .val (.int p2), .val (.int (1 : Int32)), .val (.int (0 : Int32)), .val (.int (1 : Int32)), .val (.ref a220), .val (.int (1 : Int32)), .val (.ref a223), .val (.ref r233), .unset]) rfl ?_
        show Go _ _ _ _ T233 (mkF m 160 #[.val (.int p0), .val (.long p1), .second, .val (.int p2), .val (.int (1 : Int32)), .val (.int (0 : Int32)), .val (.int (1 : Int32)), .val (.ref a220), .val (.int (1 : Int32)), .val (.ref a223), .val (.ref r233), .unset] []) _ _ _
        refine Go.aload X233 hx (hb hby at_160) rfl rfl ?_
        show Go _ _ _ _ T233 (mkF m 162 #[.val (.int p0), .val (.long p1), .second, .val (.int p2), .val (.int (1 : Int32)), .val (.int (0 : Int32)), .val (.int (1 : Int32)), .val (.ref a220), .val (.int (1 : Int32)), .val (.ref a223), .val (.ref r233), .unset] [(.ref r233)]) _ _ _
        refine Go.aload X233 hx (hb hby at_162) rfl rfl ?_
        show Go _ _ _ _ T233 (mkF m 164 #[.val (.int p0), .val (.long p1), .second, .val (.int p2), .val (.int (1 : Int32)), .val (.int (0 : Int32)), .val (.int (1 : Int32)), .val (.ref a220), .val (.int (1 : Int32)), .val (.ref a223), .val (.ref r233), .unset] [(.ref a220), (.ref r233)]) _ _ _
        refine Go.iload X233 hx (hb hby at_164) rfl ?_
        show Go _ _ _ _ T233 (mkF m 166 #[.val (.int p0), .val (.long p1), .second, .val (.int p2), .val (.int (1 : Int32)), .val (.int (0 : Int32)), .val (.int (1 : Int32)), .val (.ref a220), .val (.int (1 : Int32)), .val (.ref a223), .val (.ref r233), .unset] [(.int (1 : Int32)), (.ref a220), (.ref r233)]) _ _ _
        refine Go.callS (W := 0) (argsL := [(.ref r233), (.ref a220), (.int (1 : Int32))]) (rest := []) X233 hx hZ hown (w51 hw) (w52 hw) (w53 hw) (w54 hw) (by decide) (rm_ma1 l Z a0 hw r233 a220 kr233 (fun i => (put4 (put4 (put4 (put4 (fun _ => (0 : Int32)) 4 ((XT.ushrL (p1 ^^^ (-1 : Int64)) (32 : Int32)).toInt32)) 8 (((p1 ^^^ (-1 : Int64))).toInt32)) 12 (p0 ^^^ (-1 : Int32))) 4 p0) (i + 4)) k220 (updI (fun _ => (0 : Int32)) 0 p0) T233.heap n0 Z233 P233_2 (Af.keep F232 K233 nin0) (unit_eq p0)) rfl (lenOf pd_7 rfl) (hb hby at_166) (by rw [hml]; rfl) rfl (Nat.le_of_eq rfl) (by decide) (by decide) (by decide) (by decide) ?_
        intro v234 T234 L234 X234 q234
        obtain ⟨rfl, M234, e234⟩ := q234
        have N234 := Fr.app N233 M234
        show Go _ _ _ _ T234 (mkF m 169 #[.val (.int p0), .val (.long p1), .second, .val (.int p2), .val (.int (1 : Int32)), .val (.int (0 : Int32)), .val (.int (1 : Int32)), .val (.ref a220), .val (.int (1 : Int32)), .val (.ref a223), .val (.ref r233), .unset] [(.int (1 : Int32))]) _ _ _
        refine Go.ifYes X234 hx (hb hby at_169) (XT.i0_ne_t (by decide)) (pc' := 174) (by decide) (by decide) ?_
        show Go _ _ _ _ T234 (mkF m 174 #[.val (.int p0), .val (.long p1), .second, .val (.int p2), .val (.int (1 : Int32)), .val (.int (0 : Int32)), .val (.int (1 : Int32)), .val (.ref a220), .val (.int (1 : Int32)), .val (.ref a223), .val (.ref r233), .unset] []) _ _ _
        refine Go.aload X234 hx (hb hby at_174) rfl rfl ?_
        show Go _ _ _ _ T234 (mkF m 176 #[.val (.int p0), .val (.long p1), .second, .val (.int p2), .val (.int (1 : Int32)), .val (.int (0 : Int32)), .val (.int (1 : Int32)), .val (.ref a220), .val (.int (1 : Int32)), .val (.ref a223), .val (.ref r233), .unset] [(.ref r233)]) _ _ _
        refine Go.alen X234 hx hZ e234 P233_2 (hb hby at_176) ?_
        show Go _ _ _ _ T234 (mkF m 177 #[.val (.int p0), .val (.long p1), .second, .val (.int p2), .val (.int (1 : Int32)), .val (.int (0 : Int32)), .val (.int (1 : Int32)), .val (.ref a220), .val (.int (1 : Int32)), .val (.ref a223), .val (.ref r233), .unset] [(.int (4 : Int32))]) _ _ _
        refine Go.ifNo X234 hx (hb hby at_177) (XT.i0_le_f (by decide)) ?_
        show Go _ _ _ _ T234 (mkF m 180 #[.val (.int p0), .val (.long p1), .second, .val (.int p2), .val (.int (1 : Int32)), .val (.int (0 : Int32)), .val (.int (1 : Int32)), .val (.ref a220), .val (.int (1 : Int32)), .val (.ref a223), .val (.ref r233), .unset] []) _ _ _
        refine Go.aload X234 hx (hb hby at_180) rfl rfl ?_
        show Go _ _ _ _ T234 (mkF m 182 #[.val (.int p0), .val (.long p1), .second, .val (.int p2), .val (.int (1 : Int32)), .val (.int (0 : Int32)), .val (.int (1 : Int32)), .val (.ref a220), .val (.int (1 : Int32)), .val (.ref a223), .val (.ref r233), .unset] [(.ref r233)]) _ _ _
        refine Go.iconst X234 hx (hb hby at_182) ?_
        show Go _ _ _ _ T234 (mkF m 183 #[.val (.int p0), .val (.long p1), .second, .val (.int p2), .val (.int (1 : Int32)), .val (.int (0 : Int32)), .val (.int (1 : Int32)), .val (.ref a220), .val (.int (1 : Int32)), .val (.ref a223), .val (.ref r233), .unset] [(.int (0 : Int32)), (.ref r233)]) _ _ _
        refine Go.aload X234 hx (hb hby at_183) rfl rfl ?_
        show Go _ _ _ _ T234 (mkF m 185 #[.val (.int p0), .val (.long p1), .second, .val (.int p2), .val (.int (1 : Int32)), .val (.int (0 : Int32)), .val (.int (1 : Int32)), .val (.ref a220), .val (.int (1 : Int32)), .val (.ref a223), .val (.ref r233), .unset] [(.ref r233), (.int (0 : Int32)), (.ref r233)]) _ _ _
        refine Go.iconst X234 hx (hb hby at_185) ?_
        show Go _ _ _ _ T234 (mkF m 186 #[.val (.int p0), .val (.long p1), .second, .val (.int p2), .val (.int (1 : Int32)), .val (.int (0 : Int32)), .val (.int (1 : Int32)), .val (.ref a220), .val (.int (1 : Int32)), .val (.ref a223), .val (.ref r233), .unset] [(.int (0 : Int32)), (.ref r233), (.int (0 : Int32)), (.ref r233)]) _ _ _
        refine Go.baloadB X234 hx hZ e234 P233_2 (by decide) (by decide) (hb hby at_186) ?_
        show Go _ _ _ _ T234 (mkF m 187 #[.val (.int p0), .val (.long p1), .second, .val (.int p2), .val (.int (1 : Int32)), .val (.int (0 : Int32)), .val (.int (1 : Int32)), .val (.ref a220), .val (.int (1 : Int32)), .val (.ref a223), .val (.ref r233), .unset] [(.int ((fun i => (put4 (put4 (put4 (put4 (fun _ => (0 : Int32)) 4 ((XT.ushrL (p1 ^^^ (-1 : Int64)) (32 : Int32)).toInt32)) 8 (((p1 ^^^ (-1 : Int64))).toInt32)) 12 (p0 ^^^ (-1 : Int32))) 4 p0) (i + 4)) 0)), (.int (0 : Int32)), (.ref r233)]) _ _ _
        refine Go.iconst X234 hx (hb hby at_187) ?_
        show Go _ _ _ _ T234 (mkF m 188 #[.val (.int p0), .val (.long p1), .second, .val (.int p2), .val (.int (1 : Int32)), .val (.int (0 : Int32)), .val (.int (1 : Int32)), .val (.ref a220), .val (.int (1 : Int32)), .val (.ref a223), .val (.ref r233), .unset] [(.int (1 : Int32)), (.int ((fun i => (put4 (put4 (put4 (put4 (fun _ => (0 : Int32)) 4 ((XT.ushrL (p1 ^^^ (-1 : Int64)) (32 : Int32)).toInt32)) 8 (((p1 ^^^ (-1 : Int64))).toInt32)) 12 (p0 ^^^ (-1 : Int32))) 4 p0) (i + 4)) 0)), (.int (0 : Int32)), (.ref r233)]) _ _ _
        refine Go.ixor X234 hx (hb hby at_188) ?_
        show Go _ _ _ _ T234 (mkF m 189 #[.val (.int p0), .val (.long p1), .second, .val (.int p2), .val (.int (1 : Int32)), .val (.int (0 : Int32)), .val (.int (1 : Int32)), .val (.ref a220), .val (.int (1 : Int32)), .val (.ref a223), .val (.ref r233), .unset] [(.int (((fun i => (put4 (put4 (put4 (put4 (fun _ => (0 : Int32)) 4 ((XT.ushrL (p1 ^^^ (-1 : Int64)) (32 : Int32)).toInt32)) 8 (((p1 ^^^ (-1 : Int64))).toInt32)) 12 (p0 ^^^ (-1 : Int32))) 4 p0) (i + 4)) 0) ^^^ (1 : Int32))), (.int (0 : Int32)), (.ref r233)]) _ _ _
        refine Go.i2b X234 hx (hb hby at_189) ?_
        show Go _ _ _ _ T234 (mkF m 190 #[.val (.int p0), .val (.long p1), .second, .val (.int p2), .val (.int (1 : Int32)), .val (.int (0 : Int32)), .val (.int (1 : Int32)), .val (.ref a220), .val (.int (1 : Int32)), .val (.ref a223), .val (.ref r233), .unset] [(.int (((((fun i => (put4 (put4 (put4 (put4 (fun _ => (0 : Int32)) 4 ((XT.ushrL (p1 ^^^ (-1 : Int64)) (32 : Int32)).toInt32)) 8 (((p1 ^^^ (-1 : Int64))).toInt32)) 12 (p0 ^^^ (-1 : Int32))) 4 p0) (i + 4)) 0) ^^^ (1 : Int32))).toInt8.toInt32)), (.int (0 : Int32)), (.ref r233)]) _ _ _
        refine Go.bastoreB X234 hx hZ e234 P233_2 (by decide) (by decide) (hb hby at_190) ?_
        intro T235 h235 X235 e235 W235 A235
        have N235 := Fr.snoc X235 N234 P233_0
        have Z235 : n0 ≤ h235.size := by rw [Wr.size W235]; exact Z233
        have B235 : h0.size ≤ h235.size := by rw [Wr.size W235]; exact B233
        have A236 : Af Z h235 r233 kr233 .byte 4 (fun i => Value.int ((updI (fun i => (put4 (put4 (put4 (put4 (fun _ => (0 : Int32)) 4 ((XT.ushrL (p1 ^^^ (-1 : Int64)) (32 : Int32)).toInt32)) 8 (((p1 ^^^ (-1 : Int64))).toInt32)) 12 (p0 ^^^ (-1 : Int32))) 4 p0) (i + 4)) 0 (((((((fun i => (put4 (put4 (put4 (put4 (fun _ => (0 : Int32)) 4 ((XT.ushrL (p1 ^^^ (-1 : Int64)) (32 : Int32)).toInt32)) 8 (((p1 ^^^ (-1 : Int64))).toInt32)) 12 (p0 ^^^ (-1 : Int32))) 4 p0) (i + 4)) 0) ^^^ (1 : Int32))).toInt8.toInt32)).toInt8.toInt32)) i)) := Af.updI A235
        show Go _ _ _ _ T235 (mkF m 191 #[.val (.int p0), .val (.long p1), .second, .val (.int p2), .val (.int (1 : Int32)), .val (.int (0 : Int32)), .val (.int (1 : Int32)), .val (.ref a220), .val (.int (1 : Int32)), .val (.ref a223), .val (.ref r233), .unset] []) _ _ _
        refine Go.aload X235 hx (hb hby at_191) rfl rfl ?_
        show Go _ _ _ _ T235 (mkF m 193 #[.val (.int p0), .val (.long p1), .second, .val (.int p2), .val (.int (1 : Int32)), .val (.int (0 : Int32)), .val (.int (1 : Int32)), .val (.ref a220), .val (.int (1 : Int32)), .val (.ref a223), .val (.ref r233), .unset] [(.ref a223)]) _ _ _
        have F237 := (Af.other W235 (Af.keep F232 K233 nin0) ne_a220_r233)
        have F238 := (Af.other W235 (Af.keep P231_3 K233 nin0) ne_ab226_r233)
        have F239 := (Fld.other W235 (Fld.keep P231_1 K233 nin0) (Or.inl ne_a223_r233))
        have F240 := (Fld.other W235 (Fld.keep P231_2 K233 nin0) (Or.inl ne_a223_r233))
        refine Go.callV (W := 0) (argsL := []) (rest := []) X235 hx hZ hown (w28 hw) (w29 hw) (w31 hw) (w30 hw) (w3 hw) (w32 hw) (notFace_of_selects (args := #[]) (mvT hZ (w31 hw))) (by decide) (Exa.wr W235 (Exa.keep P231_0 K233)) (rm_tb1 l Z a0 hw a223 ab226 kb226 (put4 (put4 (put4 (put4 (fun _ => (0 : Int32)) 4 ((XT.ushrL (p1 ^^^ (-1 : Int64)) (32 : Int32)).toInt32)) 8 (((p1 ^^^ (-1 : Int64))).toInt32)) 12 (p0 ^^^ (-1 : Int32))) 4 p0) h235 n0 Z235 (okB_put (okB_put (okB_put (okB_put okB0)))) F239 F240 F238) e235 (lenOf pd_6 rfl) (hb hby at_193) (by rw [hml]; rfl) rfl (Nat.le_of_eq rfl) (by decide) (by decide) (by decide) (by decide) ?_
        intro v241 T241 L241 X241 q241
        obtain ⟨r241, kr241, rfl, M241, K241, P241_0, P241_1, P241_2⟩ := q241
        have N241 := Fr.app N235 M241
        have Z241 : n0 ≤ T241.heap.size := Nat.le_trans Z235 K241.1
        have B241 : h0.size ≤ T241.heap.size := Nat.le_trans B235 K241.1
        have ne_a220_r241 : a220 ≠ r241 := Nat.ne_of_lt (Nat.lt_of_lt_of_le (F237).lt P241_1)
        have ne_a223_r241 : a223 ≠ r241 := Nat.ne_of_lt (Nat.lt_of_lt_of_le ((Exa.wr W235 (Exa.keep P231_0 K233))).lt P241_1)
        have ne_ab226_r241 : ab226 ≠ r241 := Nat.ne_of_lt (Nat.lt_of_lt_of_le (F238).lt P241_1)
        have ne_r233_r241 : r233 ≠ r241 := Nat.ne_of_lt (Nat.lt_of_lt_of_le (A236).lt P241_1)
        show Go _ _ _ _ T241 (mkF m 196 #[.val (.int p0), .val (.long p1), .second, .val (.int p2), .val (.int (1 : Int32)), .val (.int (0 : Int32)), .val (.int (1 : Int32)), .val (.ref a220), .val (.int (1 : Int32)), .val (.ref a223), .val (.ref r233), .unset] [(.ref r241)]) _ _ _
        refine Go.astore X241 hx (hb hby at_196) rfl (l' := #[.val (.int p0), .val (.long p1), .second, .val (.int p2), .val (.int (1 : Int32)), .val (.int (0 : Int32)), .val (.int (1 : Int32)), .val (.ref a220), .val (.int (1 : Int32)), .val (.ref a223), .val (.ref r233), .val (.ref r241)]) rfl ?_
        show Go _ _ _ _ T241 (mkF m 198 #[.val (.int p0), .val (.long p1), .second, .val (.int p2), .val (.int (1 : Int32)), .val (.int (0 : Int32)), .val (.int (1 : Int32)), .val (.ref a220), .val (.int (1 : Int32)), .val (.ref a223), .val (.ref r233), .val (.ref r241)] []) _ _ _
        refine Go.aload X241 hx (hb hby at_198) rfl rfl ?_
        show Go _ _ _ _ T241 (mkF m 200 #[.val (.int p0), .val (.long p1), .second, .val (.int p2), .val (.int (1 : Int32)), .val (.int (0 : Int32)), .val (.int (1 : Int32)), .val (.ref a220), .val (.int (1 : Int32)), .val (.ref a223), .val (.ref r233), .val (.ref r241)] [(.ref r241)]) _ _ _
        refine Go.aload X241 hx (hb hby at_200) rfl rfl ?_
        show Go _ _ _ _ T241 (mkF m 202 #[.val (.int p0), .val (.long p1), .second, .val (.int p2), .val (.int (1 : Int32)), .val (.int (0 : Int32)), .val (.int (1 : Int32)), .val (.ref a220), .val (.int (1 : Int32)), .val (.ref a223), .val (.ref r233), .val (.ref r241)] [(.ref a220), (.ref r241)]) _ _ _
        refine Go.iload X241 hx (hb hby at_202) rfl ?_
        show Go _ _ _ _ T241 (mkF m 204 #[.val (.int p0), .val (.long p1), .second, .val (.int p2), .val (.int (1 : Int32)), .val (.int (0 : Int32)), .val (.int (1 : Int32)), .val (.ref a220), .val (.int (1 : Int32)), .val (.ref a223), .val (.ref r233), .val (.ref r241)] [(.int (1 : Int32)), (.ref a220), (.ref r241)]) _ _ _
        refine Go.callS (W := 0) (argsL := [(.ref r241), (.ref a220), (.int (1 : Int32))]) (rest := []) X241 hx hZ hown (w51 hw) (w52 hw) (w53 hw) (w54 hw) (by decide) (rm_ma1 l Z a0 hw r241 a220 kr241 (fun i => (put4 (put4 (put4 (put4 (fun _ => (0 : Int32)) 4 ((XT.ushrL (p1 ^^^ (-1 : Int64)) (32 : Int32)).toInt32)) 8 (((p1 ^^^ (-1 : Int64))).toInt32)) 12 (p0 ^^^ (-1 : Int32))) 4 p0) (i + 4)) k220 (updI (fun _ => (0 : Int32)) 0 p0) T241.heap n0 Z241 P241_2 (Af.keep F237 K241 nin0) (unit_eq p0)) rfl (lenOf pd_7 rfl) (hb hby at_204) (by rw [hml]; rfl) rfl (Nat.le_of_eq rfl) (by decide) (by decide) (by decide) (by decide) ?_
        intro v242 T242 L242 X242 q242
        obtain ⟨rfl, M242, e242⟩ := q242
        have N242 := Fr.app N241 M242
        show Go _ _ _ _ T242 (mkF m 207 #[.val (.int p0), .val (.long p1), .second, .val (.int p2), .val (.int (1 : Int32)), .val (.int (0 : Int32)), .val (.int (1 : Int32)), .val (.ref a220), .val (.int (1 : Int32)), .val (.ref a223), .val (.ref r233), .val (.ref r241)] [(.int (1 : Int32))]) _ _ _
        refine Go.retZ X242 hx hlk hret (by decide) (hb hby at_207) (by decide) (by decide) ?_
        rw [e242]
        exact ⟨rfl, N242⟩
    · refine Go.ifNo X0 hx (hb hby at_16) (XT.i0_eq_f c199) ?_
      show Go _ _ _ _ s₁ (mkF m 19 #[.val (.int p0), .val (.long p1), .second, .val (.int p2), .val (.int (1 : Int32)), .unset, .unset, .unset, .unset, .unset, .unset, .unset] []) _ _ _
      refine Go.iconst X0 hx (hb hby at_19) ?_
      show Go _ _ _ _ s₁ (mkF m 20 #[.val (.int p0), .val (.long p1), .second, .val (.int p2), .val (.int (1 : Int32)), .unset, .unset, .unset, .unset, .unset, .unset, .unset] [(.int (1 : Int32))]) _ _ _
      refine Go.goto X0 hx (hb hby at_20) (pc' := 24) (by decide) (by decide) ?_
      show Go _ _ _ _ s₁ (mkF m 24 #[.val (.int p0), .val (.long p1), .second, .val (.int p2), .val (.int (1 : Int32)), .unset, .unset, .unset, .unset, .unset, .unset, .unset] [(.int (1 : Int32))]) _ _ _
      refine Go.istore X0 hx (hb hby at_24) (l' := #[.val (.int p0), .val (.long p1), .second, .val (.int p2), .val (.int (1 : Int32)), .val (.int (1 : Int32)), .unset, .unset, .unset, .unset, .unset, .unset]) rfl ?_
      show Go _ _ _ _ s₁ (mkF m 26 #[.val (.int p0), .val (.long p1), .second, .val (.int p2), .val (.int (1 : Int32)), .val (.int (1 : Int32)), .unset, .unset, .unset, .unset, .unset, .unset] []) _ _ _
      refine Go.iloadN X0 hx (hb hby at_26) rfl ?_
      show Go _ _ _ _ s₁ (mkF m 27 #[.val (.int p0), .val (.long p1), .second, .val (.int p2), .val (.int (1 : Int32)), .val (.int (1 : Int32)), .unset, .unset, .unset, .unset, .unset, .unset] [(.int p2)]) _ _ _
      refine Go.iconst X0 hx (hb hby at_27) ?_
      show Go _ _ _ _ s₁ (mkF m 28 #[.val (.int p0), .val (.long p1), .second, .val (.int p2), .val (.int (1 : Int32)), .val (.int (1 : Int32)), .unset, .unset, .unset, .unset, .unset, .unset] [(.int (4 : Int32)), (.int p2)]) _ _ _
      refine Go.iand X0 hx (hb hby at_28) ?_
      show Go _ _ _ _ s₁ (mkF m 29 #[.val (.int p0), .val (.long p1), .second, .val (.int p2), .val (.int (1 : Int32)), .val (.int (1 : Int32)), .unset, .unset, .unset, .unset, .unset, .unset] [(.int (p2 &&& (4 : Int32)))]) _ _ _
      rcases Decidable.em ((p2 &&& (4 : Int32)) = (0 : Int32)) with c243 | c243
      · refine Go.ifYes X0 hx (hb hby at_29) (XT.i0_eq_t c243) (pc' := 36) (by decide) (by decide) ?_
        show Go _ _ _ _ s₁ (mkF m 36 #[.val (.int p0), .val (.long p1), .second, .val (.int p2), .val (.int (1 : Int32)), .val (.int (1 : Int32)), .unset, .unset, .unset, .unset, .unset, .unset] []) _ _ _
        refine Go.iconst X0 hx (hb hby at_36) ?_
        show Go _ _ _ _ s₁ (mkF m 37 #[.val (.int p0), .val (.long p1), .second, .val (.int p2), .val (.int (1 : Int32)), .val (.int (1 : Int32)), .unset, .unset, .unset, .unset, .unset, .unset] [(.int (0 : Int32))]) _ _ _
        refine Go.istore X0 hx (hb hby at_37) (l' := #[.val (.int p0), .val (.long p1), .second, .val (.int p2), .val (.int (1 : Int32)), .val (.int (1 : Int32)), .val (.int (0 : Int32)), .unset, .unset, .unset, .unset, .unset]) rfl ?_
        show Go _ _ _ _ s₁ (mkF m 39 #[.val (.int p0), .val (.long p1), .second, .val (.int p2), .val (.int (1 : Int32)), .val (.int (1 : Int32)), .val (.int (0 : Int32)), .unset, .unset, .unset, .unset, .unset] []) _ _ _
        refine Go.iconst X0 hx (hb hby at_39) ?_
        show Go _ _ _ _ s₁ (mkF m 40 #[.val (.int p0), .val (.long p1), .second, .val (.int p2), .val (.int (1 : Int32)), .val (.int (1 : Int32)), .val (.int (0 : Int32)), .unset, .unset, .unset, .unset, .unset] [(.int (3 : Int32))]) _ _ _
        refine Go.newarray (aty := .int) (cap := 3) X0 hx hZ (w0 hw) e0 (hb hby at_40) (by decide) (by decide) (by decide) (by decide) (by decide) ?_
        intro T244 h244 a244 k244 b244 X244 e244 E244 A244
        have g_a244 : n0 ≤ a244 := by rw [b244]; exact Z0
        have y_a244 : h0.size ≤ a244 := by rw [b244]; exact (Nat.le_refl _)
        have Z244 : n0 ≤ h244.size := Nat.le_trans Z0 E244.1
        have B244 : h0.size ≤ h244.size := Nat.le_trans (Nat.le_refl _) E244.1
        show Go _ _ _ _ T244 (mkF m 42 #[.val (.int p0), .val (.long p1), .second, .val (.int p2), .val (.int (1 : Int32)), .val (.int (1 : Int32)), .val (.int (0 : Int32)), .unset, .unset, .unset, .unset, .unset] [(.ref a244)]) _ _ _
        refine Go.astore X244 hx (hb hby at_42) rfl (l' := #[.val (.int p0), .val (.long p1), .second, .val (.int p2), .val (.int (1 : Int32)), .val (.int (1 : Int32)), .val (.int (0 : Int32)), .val (.ref a244), .unset, .unset, .unset, .unset]) rfl ?_
        show Go _ _ _ _ T244 (mkF m 44 #[.val (.int p0), .val (.long p1), .second, .val (.int p2), .val (.int (1 : Int32)), .val (.int (1 : Int32)), .val (.int (0 : Int32)), .val (.ref a244), .unset, .unset, .unset, .unset] []) _ _ _
        refine Go.iconst X244 hx (hb hby at_44) ?_
        show Go _ _ _ _ T244 (mkF m 45 #[.val (.int p0), .val (.long p1), .second, .val (.int p2), .val (.int (1 : Int32)), .val (.int (1 : Int32)), .val (.int (0 : Int32)), .val (.ref a244), .unset, .unset, .unset, .unset] [(.int (0 : Int32))]) _ _ _
        refine Go.istore X244 hx (hb hby at_45) (l' := #[.val (.int p0), .val (.long p1), .second, .val (.int p2), .val (.int (1 : Int32)), .val (.int (1 : Int32)), .val (.int (0 : Int32)), .val (.ref a244), .val (.int (0 : Int32)), .unset, .unset, .unset]) rfl ?_
        show Go _ _ _ _ T244 (mkF m 47 #[.val (.int p0), .val (.long p1), .second, .val (.int p2), .val (.int (1 : Int32)), .val (.int (1 : Int32)), .val (.int (0 : Int32)), .val (.ref a244), .val (.int (0 : Int32)), .unset, .unset, .unset] []) _ _ _
        refine Go.iload X244 hx (hb hby at_47) rfl ?_
        show Go _ _ _ _ T244 (mkF m 49 #[.val (.int p0), .val (.long p1), .second, .val (.int p2), .val (.int (1 : Int32)), .val (.int (1 : Int32)), .val (.int (0 : Int32)), .val (.ref a244), .val (.int (0 : Int32)), .unset, .unset, .unset] [(.int (1 : Int32))]) _ _ _
        refine Go.ifNo X244 hx (hb hby at_49) (XT.i0_eq_f (by decide)) ?_
        show Go _ _ _ _ T244 (mkF m 52 #[.val (.int p0), .val (.long p1), .second, .val (.int p2), .val (.int (1 : Int32)), .val (.int (1 : Int32)), .val (.int (0 : Int32)), .val (.ref a244), .val (.int (0 : Int32)), .unset, .unset, .unset] []) _ _ _
        refine Go.aload X244 hx (hb hby at_52) rfl rfl ?_
        show Go _ _ _ _ T244 (mkF m 54 #[.val (.int p0), .val (.long p1), .second, .val (.int p2), .val (.int (1 : Int32)), .val (.int (1 : Int32)), .val (.int (0 : Int32)), .val (.ref a244), .val (.int (0 : Int32)), .unset, .unset, .unset] [(.ref a244)]) _ _ _
        refine Go.iload X244 hx (hb hby at_54) rfl ?_
        show Go _ _ _ _ T244 (mkF m 56 #[.val (.int p0), .val (.long p1), .second, .val (.int p2), .val (.int (1 : Int32)), .val (.int (1 : Int32)), .val (.int (0 : Int32)), .val (.ref a244), .val (.int (0 : Int32)), .unset, .unset, .unset] [(.int (0 : Int32)), (.ref a244)]) _ _ _
        refine Go.iloadN X244 hx (hb hby at_56) rfl ?_
        show Go _ _ _ _ T244 (mkF m 57 #[.val (.int p0), .val (.long p1), .second, .val (.int p2), .val (.int (1 : Int32)), .val (.int (1 : Int32)), .val (.int (0 : Int32)), .val (.ref a244), .val (.int (0 : Int32)), .unset, .unset, .unset] [(.int p0), (.int (0 : Int32)), (.ref a244)]) _ _ _
        refine Go.iastore X244 hx hZ e244 A244 (by decide) (by decide) (hb hby at_57) ?_
        intro T245 h245 X245 e245 W245 A245
        have N245 := Fr.snoc X245 N0 g_a244
        have Z245 : n0 ≤ h245.size := by rw [Wr.size W245]; exact Z244
        have B245 : h0.size ≤ h245.size := by rw [Wr.size W245]; exact B244
        have A246 : Af Z h245 a244 k244 .int 3 (fun i => Value.int ((updI (fun _ => (0 : Int32)) 0 p0) i)) := Af.updI A245
        show Go _ _ _ _ T245 (mkF m 58 #[.val (.int p0), .val (.long p1), .second, .val (.int p2), .val (.int (1 : Int32)), .val (.int (1 : Int32)), .val (.int (0 : Int32)), .val (.ref a244), .val (.int (0 : Int32)), .unset, .unset, .unset] []) _ _ _
        refine Go.iload X245 hx (hb hby at_58) rfl ?_
        show Go _ _ _ _ T245 (mkF m 60 #[.val (.int p0), .val (.long p1), .second, .val (.int p2), .val (.int (1 : Int32)), .val (.int (1 : Int32)), .val (.int (0 : Int32)), .val (.ref a244), .val (.int (0 : Int32)), .unset, .unset, .unset] [(.int (0 : Int32))]) _ _ _
        refine Go.iconst X245 hx (hb hby at_60) ?_
        show Go _ _ _ _ T245 (mkF m 61 #[.val (.int p0), .val (.long p1), .second, .val (.int p2), .val (.int (1 : Int32)), .val (.int (1 : Int32)), .val (.int (0 : Int32)), .val (.ref a244), .val (.int (0 : Int32)), .unset, .unset, .unset] [(.int (1 : Int32)), (.int (0 : Int32))]) _ _ _
        refine Go.iadd X245 hx (hb hby at_61) ?_
        show Go _ _ _ _ T245 (mkF m 62 #[.val (.int p0), .val (.long p1), .second, .val (.int p2), .val (.int (1 : Int32)), .val (.int (1 : Int32)), .val (.int (0 : Int32)), .val (.ref a244), .val (.int (0 : Int32)), .unset, .unset, .unset] [(.int (1 : Int32))]) _ _ _
        refine Go.istore X245 hx (hb hby at_62) (l' := #[.val (.int p0), .val (.long p1), .second, .val (.int p2), .val (.int (1 : Int32)), .val (.int (1 : Int32)), .val (.int (0 : Int32)), .val (.ref a244), .val (.int (1 : Int32)), .unset, .unset, .unset]) rfl ?_
        show Go _ _ _ _ T245 (mkF m 64 #[.val (.int p0), .val (.long p1), .second, .val (.int p2), .val (.int (1 : Int32)), .val (.int (1 : Int32)), .val (.int (0 : Int32)), .val (.ref a244), .val (.int (1 : Int32)), .unset, .unset, .unset] []) _ _ _
        refine Go.iload X245 hx (hb hby at_64) rfl ?_
        show Go _ _ _ _ T245 (mkF m 66 #[.val (.int p0), .val (.long p1), .second, .val (.int p2), .val (.int (1 : Int32)), .val (.int (1 : Int32)), .val (.int (0 : Int32)), .val (.ref a244), .val (.int (1 : Int32)), .unset, .unset, .unset] [(.int (1 : Int32))]) _ _ _
        refine Go.ifNo X245 hx (hb hby at_66) (XT.i0_eq_f (by decide)) ?_
        show Go _ _ _ _ T245 (mkF m 69 #[.val (.int p0), .val (.long p1), .second, .val (.int p2), .val (.int (1 : Int32)), .val (.int (1 : Int32)), .val (.int (0 : Int32)), .val (.ref a244), .val (.int (1 : Int32)), .unset, .unset, .unset] []) _ _ _
        refine Go.aload X245 hx (hb hby at_69) rfl rfl ?_
        show Go _ _ _ _ T245 (mkF m 71 #[.val (.int p0), .val (.long p1), .second, .val (.int p2), .val (.int (1 : Int32)), .val (.int (1 : Int32)), .val (.int (0 : Int32)), .val (.ref a244), .val (.int (1 : Int32)), .unset, .unset, .unset] [(.ref a244)]) _ _ _
        refine Go.iload X245 hx (hb hby at_71) rfl ?_
        show Go _ _ _ _ T245 (mkF m 73 #[.val (.int p0), .val (.long p1), .second, .val (.int p2), .val (.int (1 : Int32)), .val (.int (1 : Int32)), .val (.int (0 : Int32)), .val (.ref a244), .val (.int (1 : Int32)), .unset, .unset, .unset] [(.int (1 : Int32)), (.ref a244)]) _ _ _
        refine Go.lloadN X245 hx (hb hby at_73) rfl ?_
        show Go _ _ _ _ T245 (mkF m 74 #[.val (.int p0), .val (.long p1), .second, .val (.int p2), .val (.int (1 : Int32)), .val (.int (1 : Int32)), .val (.int (0 : Int32)), .val (.ref a244), .val (.int (1 : Int32)), .unset, .unset, .unset] [(.long p1), (.int (1 : Int32)), (.ref a244)]) _ _ _
        refine Go.bipush X245 hx (hb hby at_74) ?_
        show Go _ _ _ _ T245 (mkF m 76 #[.val (.int p0), .val (.long p1), .second, .val (.int p2), .val (.int (1 : Int32)), .val (.int (1 : Int32)), .val (.int (0 : Int32)), .val (.ref a244), .val (.int (1 : Int32)), .unset, .unset, .unset] [(.int (32 : Int32)), (.long p1), (.int (1 : Int32)), (.ref a244)]) _ _ _
        refine Go.lshr X245 hx (hb hby at_76) ?_
        show Go _ _ _ _ T245 (mkF m 77 #[.val (.int p0), .val (.long p1), .second, .val (.int p2), .val (.int (1 : Int32)), .val (.int (1 : Int32)), .val (.int (0 : Int32)), .val (.ref a244), .val (.int (1 : Int32)), .unset, .unset, .unset] [(.long (p1 >>> (((32 : Int32)).toInt64 &&& 63))), (.int (1 : Int32)), (.ref a244)]) _ _ _
        refine Go.l2i X245 hx (hb hby at_77) ?_
        show Go _ _ _ _ T245 (mkF m 78 #[.val (.int p0), .val (.long p1), .second, .val (.int p2), .val (.int (1 : Int32)), .val (.int (1 : Int32)), .val (.int (0 : Int32)), .val (.ref a244), .val (.int (1 : Int32)), .unset, .unset, .unset] [(.int (((p1 >>> (((32 : Int32)).toInt64 &&& 63))).toInt32)), (.int (1 : Int32)), (.ref a244)]) _ _ _
        refine Go.iastore X245 hx hZ e245 A246 (by decide) (by decide) (hb hby at_78) ?_
        intro T247 h247 X247 e247 W247 A247
        have N247 := Fr.snoc X247 N245 g_a244
        have Z247 : n0 ≤ h247.size := by rw [Wr.size W247]; exact Z245
        have B247 : h0.size ≤ h247.size := by rw [Wr.size W247]; exact B245
        have A248 : Af Z h247 a244 k244 .int 3 (fun i => Value.int ((updI (updI (fun _ => (0 : Int32)) 0 p0) 1 (((p1 >>> (((32 : Int32)).toInt64 &&& 63))).toInt32)) i)) := Af.updI A247
        show Go _ _ _ _ T247 (mkF m 79 #[.val (.int p0), .val (.long p1), .second, .val (.int p2), .val (.int (1 : Int32)), .val (.int (1 : Int32)), .val (.int (0 : Int32)), .val (.ref a244), .val (.int (1 : Int32)), .unset, .unset, .unset] []) _ _ _
        refine Go.aload X247 hx (hb hby at_79) rfl rfl ?_
        show Go _ _ _ _ T247 (mkF m 81 #[.val (.int p0), .val (.long p1), .second, .val (.int p2), .val (.int (1 : Int32)), .val (.int (1 : Int32)), .val (.int (0 : Int32)), .val (.ref a244), .val (.int (1 : Int32)), .unset, .unset, .unset] [(.ref a244)]) _ _ _
        refine Go.iload X247 hx (hb hby at_81) rfl ?_
        show Go _ _ _ _ T247 (mkF m 83 #[.val (.int p0), .val (.long p1), .second, .val (.int p2), .val (.int (1 : Int32)), .val (.int (1 : Int32)), .val (.int (0 : Int32)), .val (.ref a244), .val (.int (1 : Int32)), .unset, .unset, .unset] [(.int (1 : Int32)), (.ref a244)]) _ _ _
        refine Go.iconst X247 hx (hb hby at_83) ?_
        show Go _ _ _ _ T247 (mkF m 84 #[.val (.int p0), .val (.long p1), .second, .val (.int p2), .val (.int (1 : Int32)), .val (.int (1 : Int32)), .val (.int (0 : Int32)), .val (.ref a244), .val (.int (1 : Int32)), .unset, .unset, .unset] [(.int (1 : Int32)), (.int (1 : Int32)), (.ref a244)]) _ _ _
        refine Go.iadd X247 hx (hb hby at_84) ?_
        show Go _ _ _ _ T247 (mkF m 85 #[.val (.int p0), .val (.long p1), .second, .val (.int p2), .val (.int (1 : Int32)), .val (.int (1 : Int32)), .val (.int (0 : Int32)), .val (.ref a244), .val (.int (1 : Int32)), .unset, .unset, .unset] [(.int (2 : Int32)), (.ref a244)]) _ _ _
        refine Go.lloadN X247 hx (hb hby at_85) rfl ?_
        show Go _ _ _ _ T247 (mkF m 86 #[.val (.int p0), .val (.long p1), .second, .val (.int p2), .val (.int (1 : Int32)), .val (.int (1 : Int32)), .val (.int (0 : Int32)), .val (.ref a244), .val (.int (1 : Int32)), .unset, .unset, .unset] [(.long p1), (.int (2 : Int32)), (.ref a244)]) _ _ _
        refine Go.l2i X247 hx (hb hby at_86) ?_
        show Go _ _ _ _ T247 (mkF m 87 #[.val (.int p0), .val (.long p1), .second, .val (.int p2), .val (.int (1 : Int32)), .val (.int (1 : Int32)), .val (.int (0 : Int32)), .val (.ref a244), .val (.int (1 : Int32)), .unset, .unset, .unset] [(.int ((p1).toInt32)), (.int (2 : Int32)), (.ref a244)]) _ _ _
        refine Go.iastore X247 hx hZ e247 A248 (by decide) (by decide) (hb hby at_87) ?_
        intro T249 h249 X249 e249 W249 A249
        have N249 := Fr.snoc X249 N247 g_a244
        have Z249 : n0 ≤ h249.size := by rw [Wr.size W249]; exact Z247
        have B249 : h0.size ≤ h249.size := by rw [Wr.size W249]; exact B247
        have A250 : Af Z h249 a244 k244 .int 3 (fun i => Value.int ((updI (updI (updI (fun _ => (0 : Int32)) 0 p0) 1 (((p1 >>> (((32 : Int32)).toInt64 &&& 63))).toInt32)) 2 ((p1).toInt32)) i)) := Af.updI A249
        show Go _ _ _ _ T249 (mkF m 88 #[.val (.int p0), .val (.long p1), .second, .val (.int p2), .val (.int (1 : Int32)), .val (.int (1 : Int32)), .val (.int (0 : Int32)), .val (.ref a244), .val (.int (1 : Int32)), .unset, .unset, .unset] []) _ _ _
        refine Go.iload X249 hx (hb hby at_88) rfl ?_
        show Go _ _ _ _ T249 (mkF m 90 #[.val (.int p0), .val (.long p1), .second, .val (.int p2), .val (.int (1 : Int32)), .val (.int (1 : Int32)), .val (.int (0 : Int32)), .val (.ref a244), .val (.int (1 : Int32)), .unset, .unset, .unset] [(.int (1 : Int32))]) _ _ _
        refine Go.iconst X249 hx (hb hby at_90) ?_
        show Go _ _ _ _ T249 (mkF m 91 #[.val (.int p0), .val (.long p1), .second, .val (.int p2), .val (.int (1 : Int32)), .val (.int (1 : Int32)), .val (.int (0 : Int32)), .val (.ref a244), .val (.int (1 : Int32)), .unset, .unset, .unset] [(.int (2 : Int32)), (.int (1 : Int32))]) _ _ _
        refine Go.iadd X249 hx (hb hby at_91) ?_
        show Go _ _ _ _ T249 (mkF m 92 #[.val (.int p0), .val (.long p1), .second, .val (.int p2), .val (.int (1 : Int32)), .val (.int (1 : Int32)), .val (.int (0 : Int32)), .val (.ref a244), .val (.int (1 : Int32)), .unset, .unset, .unset] [(.int (3 : Int32))]) _ _ _
        refine Go.istore X249 hx (hb hby at_92) (l' := #[.val (.int p0), .val (.long p1), .second, .val (.int p2), .val (.int (1 : Int32)), .val (.int (1 : Int32)), .val (.int (0 : Int32)), .val (.ref a244), .val (.int (3 : Int32)), .unset, .unset, .unset]) rfl ?_
        show Go _ _ _ _ T249 (mkF m 94 #[.val (.int p0), .val (.long p1), .second, .val (.int p2), .val (.int (1 : Int32)), .val (.int (1 : Int32)), .val (.int (0 : Int32)), .val (.ref a244), .val (.int (3 : Int32)), .unset, .unset, .unset] []) _ _ _
        refine Go.newO X249 hx hZ hown (w1 hw) (w2 hw) (w3 hw) e249 (hb hby at_94) (by decide) (by decide) ?_
        intro T251 h251 a251 b251 X251 e251 E251 A251 D251
        have g_a251 : n0 ≤ a251 := by rw [b251]; exact Z249
        have y_a251 : h0.size ≤ a251 := by rw [b251]; exact B249
        have ne_a244_a251 : a244 ≠ a251 := by rw [b251]; exact Nat.ne_of_lt A250.lt
        have Z251 : n0 ≤ h251.size := Nat.le_trans Z249 E251.1
        have B251 : h0.size ≤ h251.size := Nat.le_trans B249 E251.1
        show Go _ _ _ _ T251 (mkF m 97 #[.val (.int p0), .val (.long p1), .second, .val (.int p2), .val (.int (1 : Int32)), .val (.int (1 : Int32)), .val (.int (0 : Int32)), .val (.ref a244), .val (.int (3 : Int32)), .unset, .unset, .unset] [(.ref a251)]) _ _ _
        refine Go.dup X251 hx (hb hby at_97) rfl ?_
        show Go _ _ _ _ T251 (mkF m 98 #[.val (.int p0), .val (.long p1), .second, .val (.int p2), .val (.int (1 : Int32)), .val (.int (1 : Int32)), .val (.int (0 : Int32)), .val (.ref a244), .val (.int (3 : Int32)), .unset, .unset, .unset] [(.ref a251), (.ref a251)]) _ _ _
        have F252 := (D251 (Or.inl (w12 hw)) (ty := (.array .byte)) (by decide))
        have F253 := (D251 (Or.inl (w14 hw)) (ty := .int) (by decide))
        refine Go.callI (W := 1) (a := a251) (argsL := []) (rest := [(.ref a251)]) X251 hx hZ hown rfl (w4 hw) (w5 hw) (w3 hw) (w6 hw) (by decide) (rm_init l Z a0 hw a251 h251 n0 Z251 A251 g_a251 F252 F253) e251 (lenOf pd_5 rfl) (hb hby at_98) (by rw [hml]; rfl) rfl (Nat.le_of_eq rfl) (by decide) (by decide) (by decide) (by decide) ?_
        intro v254 T254 L254 X254 q254
        obtain ⟨ab254, kb254, rfl, M254, K254, P254_0, P254_1, P254_2, P254_3, P254_4, P254_5, P254_6⟩ := q254
        have N254 := Fr.app N249 M254
        have Z254 : n0 ≤ T254.heap.size := Nat.le_trans Z251 K254.1
        have B254 : h0.size ≤ T254.heap.size := Nat.le_trans B251 K254.1
        have ne_a244_ab254 : a244 ≠ ab254 := Nat.ne_of_lt (Nat.lt_of_lt_of_le ((Af.ext E251 A250)).lt P254_2)
        have ne_a251_ab254 : a251 ≠ ab254 := Nat.ne_of_lt (Nat.lt_of_lt_of_le (A251).lt P254_2)
        show Go _ _ _ _ T254 (mkF m 101 #[.val (.int p0), .val (.long p1), .second, .val (.int p2), .val (.int (1 : Int32)), .val (.int (1 : Int32)), .val (.int (0 : Int32)), .val (.ref a244), .val (.int (3 : Int32)), .unset, .unset, .unset] [(.ref a251)]) _ _ _
        refine Go.astore X254 hx (hb hby at_101) rfl (l' := #[.val (.int p0), .val (.long p1), .second, .val (.int p2), .val (.int (1 : Int32)), .val (.int (1 : Int32)), .val (.int (0 : Int32)), .val (.ref a244), .val (.int (3 : Int32)), .val (.ref a251), .unset, .unset]) rfl ?_
        show Go _ _ _ _ T254 (mkF m 103 #[.val (.int p0), .val (.long p1), .second, .val (.int p2), .val (.int (1 : Int32)), .val (.int (1 : Int32)), .val (.int (0 : Int32)), .val (.ref a244), .val (.int (3 : Int32)), .val (.ref a251), .unset, .unset] []) _ _ _
        refine Go.iload X254 hx (hb hby at_103) rfl ?_
        show Go _ _ _ _ T254 (mkF m 105 #[.val (.int p0), .val (.long p1), .second, .val (.int p2), .val (.int (1 : Int32)), .val (.int (1 : Int32)), .val (.int (0 : Int32)), .val (.ref a244), .val (.int (3 : Int32)), .val (.ref a251), .unset, .unset] [(.int (0 : Int32))]) _ _ _
        refine Go.ifYes X254 hx (hb hby at_105) (XT.i0_eq_t (by decide)) (pc' := 131) (by decide) (by decide) ?_
        show Go _ _ _ _ T254 (mkF m 131 #[.val (.int p0), .val (.long p1), .second, .val (.int p2), .val (.int (1 : Int32)), .val (.int (1 : Int32)), .val (.int (0 : Int32)), .val (.ref a244), .val (.int (3 : Int32)), .val (.ref a251), .unset, .unset] []) _ _ _
        refine Go.iload X254 hx (hb hby at_131) rfl ?_
        show Go _ _ _ _ T254 (mkF m 133 #[.val (.int p0), .val (.long p1), .second, .val (.int p2), .val (.int (1 : Int32)), .val (.int (1 : Int32)), .val (.int (0 : Int32)), .val (.ref a244), .val (.int (3 : Int32)), .val (.ref a251), .unset, .unset] [(.int (1 : Int32))]) _ _ _
        refine Go.ifNo X254 hx (hb hby at_133) (XT.i0_eq_f (by decide)) ?_
        show Go _ _ _ _ T254 (mkF m 136 #[.val (.int p0), .val (.long p1), .second, .val (.int p2), .val (.int (1 : Int32)), .val (.int (1 : Int32)), .val (.int (0 : Int32)), .val (.ref a244), .val (.int (3 : Int32)), .val (.ref a251), .unset, .unset] []) _ _ _
        refine Go.aload X254 hx (hb hby at_136) rfl rfl ?_
        show Go _ _ _ _ T254 (mkF m 138 #[.val (.int p0), .val (.long p1), .second, .val (.int p2), .val (.int (1 : Int32)), .val (.int (1 : Int32)), .val (.int (0 : Int32)), .val (.ref a244), .val (.int (3 : Int32)), .val (.ref a251), .unset, .unset] [(.ref a251)]) _ _ _
        refine Go.iloadN X254 hx (hb hby at_138) rfl ?_
        show Go _ _ _ _ T254 (mkF m 139 #[.val (.int p0), .val (.long p1), .second, .val (.int p2), .val (.int (1 : Int32)), .val (.int (1 : Int32)), .val (.int (0 : Int32)), .val (.ref a244), .val (.int (3 : Int32)), .val (.ref a251), .unset, .unset] [(.int p0), (.ref a251)]) _ _ _
        refine Go.callV (W := 0) (argsL := [(.int p0)]) (rest := []) X254 hx hZ hown (w15 hw) (w16 hw) (w18 hw) (w17 hw) (w3 hw) (w19 hw) (notFace_of_selects (args := #[]) (mvT hZ (w18 hw))) (by decide) P254_0 (rm_wi4 l Z a0 hw a251 p0 ab254 kb254 (fun _ => (0 : Int32)) T254.heap n0 Z254 P254_0 g_a251 P254_1 P254_3 P254_4 P254_6 P254_5) rfl (lenOf pd_0 rfl) (hb hby at_139) (by rw [hml]; rfl) rfl (Nat.le_of_eq rfl) (by decide) (by decide) (by decide) (by decide) ?_
        intro v255 T255 L255 X255 q255
        obtain ⟨rfl, M255, K255, P255_0, P255_1, P255_2, P255_3⟩ := q255
        have N255 := Fr.app N254 M255
        have Z255 : n0 ≤ T255.heap.size := Nat.le_trans Z254 K255.1
        have B255 : h0.size ≤ T255.heap.size := Nat.le_trans B254 K255.1
        show Go _ _ _ _ T255 (mkF m 142 #[.val (.int p0), .val (.long p1), .second, .val (.int p2), .val (.int (1 : Int32)), .val (.int (1 : Int32)), .val (.int (0 : Int32)), .val (.ref a244), .val (.int (3 : Int32)), .val (.ref a251), .unset, .unset] []) _ _ _
        refine Go.iload X255 hx (hb hby at_142) rfl ?_
        show Go _ _ _ _ T255 (mkF m 144 #[.val (.int p0), .val (.long p1), .second, .val (.int p2), .val (.int (1 : Int32)), .val (.int (1 : Int32)), .val (.int (0 : Int32)), .val (.ref a244), .val (.int (3 : Int32)), .val (.ref a251), .unset, .unset] [(.int (1 : Int32))]) _ _ _
        refine Go.ifNo X255 hx (hb hby at_144) (XT.i0_eq_f (by decide)) ?_
        show Go _ _ _ _ T255 (mkF m 147 #[.val (.int p0), .val (.long p1), .second, .val (.int p2), .val (.int (1 : Int32)), .val (.int (1 : Int32)), .val (.int (0 : Int32)), .val (.ref a244), .val (.int (3 : Int32)), .val (.ref a251), .unset, .unset] []) _ _ _
        refine Go.aload X255 hx (hb hby at_147) rfl rfl ?_
        show Go _ _ _ _ T255 (mkF m 149 #[.val (.int p0), .val (.long p1), .second, .val (.int p2), .val (.int (1 : Int32)), .val (.int (1 : Int32)), .val (.int (0 : Int32)), .val (.ref a244), .val (.int (3 : Int32)), .val (.ref a251), .unset, .unset] [(.ref a251)]) _ _ _
        refine Go.lloadN X255 hx (hb hby at_149) rfl ?_
        show Go _ _ _ _ T255 (mkF m 150 #[.val (.int p0), .val (.long p1), .second, .val (.int p2), .val (.int (1 : Int32)), .val (.int (1 : Int32)), .val (.int (0 : Int32)), .val (.ref a244), .val (.int (3 : Int32)), .val (.ref a251), .unset, .unset] [(.long p1), (.ref a251)]) _ _ _
        refine Go.callV (W := 0) (argsL := [(.long p1)]) (rest := []) X255 hx hZ hown (w58 hw) (w59 hw) (w61 hw) (w60 hw) (w3 hw) (w62 hw) (notFace_of_selects (args := #[]) (mvT hZ (w61 hw))) (by decide) P255_0 (rm_wl8 l Z a0 hw a251 p1 ab254 kb254 (put4 (fun _ => (0 : Int32)) 4 p0) T255.heap n0 Z255 P255_0 g_a251 P254_1 P254_3 P255_1 P255_3 P255_2) rfl (lenOf pd_8 rfl) (hb hby at_150) (by rw [hml]; rfl) rfl (Nat.le_of_eq rfl) (by decide) (by decide) (by decide) (by decide) ?_
        intro v256 T256 L256 X256 q256
        obtain ⟨rfl, M256, K256, P256_0, P256_1, P256_2, P256_3⟩ := q256
        have N256 := Fr.app N255 M256
        have Z256 : n0 ≤ T256.heap.size := Nat.le_trans Z255 K256.1
        have B256 : h0.size ≤ T256.heap.size := Nat.le_trans B255 K256.1
        show Go _ _ _ _ T256 (mkF m 153 #[.val (.int p0), .val (.long p1), .second, .val (.int p2), .val (.int (1 : Int32)), .val (.int (1 : Int32)), .val (.int (0 : Int32)), .val (.ref a244), .val (.int (3 : Int32)), .val (.ref a251), .unset, .unset] []) _ _ _
        refine Go.aload X256 hx (hb hby at_153) rfl rfl ?_
        show Go _ _ _ _ T256 (mkF m 155 #[.val (.int p0), .val (.long p1), .second, .val (.int p2), .val (.int (1 : Int32)), .val (.int (1 : Int32)), .val (.int (0 : Int32)), .val (.ref a244), .val (.int (3 : Int32)), .val (.ref a251), .unset, .unset] [(.ref a251)]) _ _ _
        have F257 := (Af.keep (Af.keep (Af.keep (Af.ext E251 A250) K254 (ninS ne_a244_a251 nin0)) K255 (ninS ne_a244_a251 (ninS ne_a244_ab254 nin0))) K256 (ninS ne_a244_a251 (ninS ne_a244_ab254 nin0)))
        refine Go.callV (W := 0) (argsL := []) (rest := []) X256 hx hZ hown (w28 hw) (w29 hw) (w31 hw) (w30 hw) (w3 hw) (w32 hw) (notFace_of_selects (args := #[]) (mvT hZ (w31 hw))) (by decide) P256_0 (rm_tb3 l Z a0 hw a251 ab254 kb254 (put4 (put4 (put4 (fun _ => (0 : Int32)) 4 p0) 8 ((XT.ushrL p1 (32 : Int32)).toInt32)) 12 ((p1).toInt32)) T256.heap n0 Z256 (okB_put (okB_put (okB_put okB0))) P256_1 P256_2 P256_3) rfl (lenOf pd_6 rfl) (hb hby at_155) (by rw [hml]; rfl) rfl (Nat.le_of_eq rfl) (by decide) (by decide) (by decide) (by decide) ?_
        intro v258 T258 L258 X258 q258
        obtain ⟨r258, kr258, rfl, M258, K258, P258_0, P258_1, P258_2⟩ := q258
        have N258 := Fr.app N256 M258
        have Z258 : n0 ≤ T258.heap.size := Nat.le_trans Z256 K258.1
        have B258 : h0.size ≤ T258.heap.size := Nat.le_trans B256 K258.1
        have ne_a244_r258 : a244 ≠ r258 := Nat.ne_of_lt (Nat.lt_of_lt_of_le (F257).lt P258_1)
        have ne_a251_r258 : a251 ≠ r258 := Nat.ne_of_lt (Nat.lt_of_lt_of_le (P256_0).lt P258_1)
        have ne_ab254_r258 : ab254 ≠ r258 := Nat.ne_of_lt (Nat.lt_of_lt_of_le (P256_3).lt P258_1)
        show Go _ _ _ _ T258 (mkF m 158 #[.val (.int p0), .val (.long p1), .second, .val (.int p2), .val (.int (1 : Int32)), .val (.int (1 : Int32)), .val (.int (0 : Int32)), .val (.ref a244), .val (.int (3 : Int32)), .val (.ref a251), .unset, .unset] [(.ref r258)]) _ _ _
        refine Go.astore X258 hx (hb hby at_158) rfl (l' := #[.val (.int p0), .val (.long p1), .second, .val (.int p2), .val (.int (1 : Int32)), .val (.int (1 : Int32)), .val (.int (0 : Int32)), .val (.ref a244), .val (.int (3 : Int32)), .val (.ref a251), .val (.ref r258), .unset]) rfl ?_
        show Go _ _ _ _ T258 (mkF m 160 #[.val (.int p0), .val (.long p1), .second, .val (.int p2), .val (.int (1 : Int32)), .val (.int (1 : Int32)), .val (.int (0 : Int32)), .val (.ref a244), .val (.int (3 : Int32)), .val (.ref a251), .val (.ref r258), .unset] []) _ _ _
        refine Go.aload X258 hx (hb hby at_160) rfl rfl ?_
        show Go _ _ _ _ T258 (mkF m 162 #[.val (.int p0), .val (.long p1), .second, .val (.int p2), .val (.int (1 : Int32)), .val (.int (1 : Int32)), .val (.int (0 : Int32)), .val (.ref a244), .val (.int (3 : Int32)), .val (.ref a251), .val (.ref r258), .unset] [(.ref r258)]) _ _ _
        refine Go.aload X258 hx (hb hby at_162) rfl rfl ?_
        show Go _ _ _ _ T258 (mkF m 164 #[.val (.int p0), .val (.long p1), .second, .val (.int p2), .val (.int (1 : Int32)), .val (.int (1 : Int32)), .val (.int (0 : Int32)), .val (.ref a244), .val (.int (3 : Int32)), .val (.ref a251), .val (.ref r258), .unset] [(.ref a244), (.ref r258)]) _ _ _
        refine Go.iload X258 hx (hb hby at_164) rfl ?_
        show Go _ _ _ _ T258 (mkF m 166 #[.val (.int p0), .val (.long p1), .second, .val (.int p2), .val (.int (1 : Int32)), .val (.int (1 : Int32)), .val (.int (0 : Int32)), .val (.ref a244), .val (.int (3 : Int32)), .val (.ref a251), .val (.ref r258), .unset] [(.int (3 : Int32)), (.ref a244), (.ref r258)]) _ _ _
        refine Go.callS (W := 0) (argsL := [(.ref r258), (.ref a244), (.int (3 : Int32))]) (rest := []) X258 hx hZ hown (w51 hw) (w52 hw) (w53 hw) (w54 hw) (by decide) (rm_ma3 l Z a0 hw r258 a244 kr258 (fun i => (put4 (put4 (put4 (fun _ => (0 : Int32)) 4 p0) 8 ((XT.ushrL p1 (32 : Int32)).toInt32)) 12 ((p1).toInt32)) (i + 4)) k244 (updI (updI (updI (fun _ => (0 : Int32)) 0 p0) 1 (((p1 >>> (((32 : Int32)).toInt64 &&& 63))).toInt32)) 2 ((p1).toInt32)) T258.heap n0 Z258 P258_2 (Af.keep F257 K258 nin0) (unit_eq p0) ((unit_eq _).trans (hi_eq p1)) (unit_eq ((p1).toInt32))) rfl (lenOf pd_7 rfl) (hb hby at_166) (by rw [hml]; rfl) rfl (Nat.le_of_eq rfl) (by decide) (by decide) (by decide) (by decide) ?_
        intro v259 T259 L259 X259 q259
        obtain ⟨rfl, M259, e259⟩ := q259
        have N259 := Fr.app N258 M259
        show Go _ _ _ _ T259 (mkF m 169 #[.val (.int p0), .val (.long p1), .second, .val (.int p2), .val (.int (1 : Int32)), .val (.int (1 : Int32)), .val (.int (0 : Int32)), .val (.ref a244), .val (.int (3 : Int32)), .val (.ref a251), .val (.ref r258), .unset] [(.int (1 : Int32))]) _ _ _
        refine Go.ifYes X259 hx (hb hby at_169) (XT.i0_ne_t (by decide)) (pc' := 174) (by decide) (by decide) ?_
        show Go _ _ _ _ T259 (mkF m 174 #[.val (.int p0), .val (.long p1), .second, .val (.int p2), .val (.int (1 : Int32)), .val (.int (1 : Int32)), .val (.int (0 : Int32)), .val (.ref a244), .val (.int (3 : Int32)), .val (.ref a251), .val (.ref r258), .unset] []) _ _ _
        refine Go.aload X259 hx (hb hby at_174) rfl rfl ?_
        show Go _ _ _ _ T259 (mkF m 176 #[.val (.int p0), .val (.long p1), .second, .val (.int p2), .val (.int (1 : Int32)), .val (.int (1 : Int32)), .val (.int (0 : Int32)), .val (.ref a244), .val (.int (3 : Int32)), .val (.ref a251), .val (.ref r258), .unset] [(.ref r258)]) _ _ _
        refine Go.alen X259 hx hZ e259 P258_2 (hb hby at_176) ?_
        show Go _ _ _ _ T259 (mkF m 177 #[.val (.int p0), .val (.long p1), .second, .val (.int p2), .val (.int (1 : Int32)), .val (.int (1 : Int32)), .val (.int (0 : Int32)), .val (.ref a244), .val (.int (3 : Int32)), .val (.ref a251), .val (.ref r258), .unset] [(.int (12 : Int32))]) _ _ _
        refine Go.ifNo X259 hx (hb hby at_177) (XT.i0_le_f (by decide)) ?_
        show Go _ _ _ _ T259 (mkF m 180 #[.val (.int p0), .val (.long p1), .second, .val (.int p2), .val (.int (1 : Int32)), .val (.int (1 : Int32)), .val (.int (0 : Int32)), .val (.ref a244), .val (.int (3 : Int32)), .val (.ref a251), .val (.ref r258), .unset] []) _ _ _
        refine Go.aload X259 hx (hb hby at_180) rfl rfl ?_
        show Go _ _ _ _ T259 (mkF m 182 #[.val (.int p0), .val (.long p1), .second, .val (.int p2), .val (.int (1 : Int32)), .val (.int (1 : Int32)), .val (.int (0 : Int32)), .val (.ref a244), .val (.int (3 : Int32)), .val (.ref a251), .val (.ref r258), .unset] [(.ref r258)]) _ _ _
        refine Go.iconst X259 hx (hb hby at_182) ?_
        show Go _ _ _ _ T259 (mkF m 183 #[.val (.int p0), .val (.long p1), .second, .val (.int p2), .val (.int (1 : Int32)), .val (.int (1 : Int32)), .val (.int (0 : Int32)), .val (.ref a244), .val (.int (3 : Int32)), .val (.ref a251), .val (.ref r258), .unset] [(.int (0 : Int32)), (.ref r258)]) _ _ _
        refine Go.aload X259 hx (hb hby at_183) rfl rfl ?_
        show Go _ _ _ _ T259 (mkF m 185 #[.val (.int p0), .val (.long p1), .second, .val (.int p2), .val (.int (1 : Int32)), .val (.int (1 : Int32)), .val (.int (0 : Int32)), .val (.ref a244), .val (.int (3 : Int32)), .val (.ref a251), .val (.ref r258), .unset] [(.ref r258), (.int (0 : Int32)), (.ref r258)]) _ _ _
        refine Go.iconst X259 hx (hb hby at_185) ?_
        show Go _ _ _ _ T259 (mkF m 186 #[.val (.int p0), .val (.long p1), .second, .val (.int p2), .val (.int (1 : Int32)), .val (.int (1 : Int32)), .val (.int (0 : Int32)), .val (.ref a244), .val (.int (3 : Int32)), .val (.ref a251), .val (.ref r258), .unset] [(.int (0 : Int32)), (.ref r258), (.int (0 : Int32)), (.ref r258)]) _ _ _
        refine Go.baloadB X259 hx hZ e259 P258_2 (by decide) (by decide) (hb hby at_186) ?_
        show Go _ _ _ _ T259 (mkF m 187 #[.val (.int p0), .val (.long p1), .second, .val (.int p2), .val (.int (1 : Int32)), .val (.int (1 : Int32)), .val (.int (0 : Int32)), .val (.ref a244), .val (.int (3 : Int32)), .val (.ref a251), .val (.ref r258), .unset] [(.int ((fun i => (put4 (put4 (put4 (fun _ => (0 : Int32)) 4 p0) 8 ((XT.ushrL p1 (32 : Int32)).toInt32)) 12 ((p1).toInt32)) (i + 4)) 0)), (.int (0 : Int32)), (.ref r258)]) _ _ _
        refine Go.iconst X259 hx (hb hby at_187) ?_
        show Go _ _ _ _ T259 (mkF m 188 #[.val (.int p0), .val (.long p1), .second, .val (.int p2), .val (.int (1 : Int32)), .val (.int (1 : Int32)), .val (.int (0 : Int32)), .val (.ref a244), .val (.int (3 : Int32)), .val (.ref a251), .val (.ref r258), .unset] [(.int (1 : Int32)), (.int ((fun i => (put4 (put4 (put4 (fun _ => (0 : Int32)) 4 p0) 8 ((XT.ushrL p1 (32 : Int32)).toInt32)) 12 ((p1).toInt32)) (i + 4)) 0)), (.int (0 : Int32)), (.ref r258)]) _ _ _
        refine Go.ixor X259 hx (hb hby at_188) ?_
        show Go _ _ _ _ T259 (mkF m 189 #[.val (.int p0), .val (.long p1), .second, .val (.int p2), .val (.int (1 : Int32)), .val (.int (1 : Int32)), .val (.int (0 : Int32)), .val (.ref a244), .val (.int (3 : Int32)), .val (.ref a251), .val (.ref r258), .unset] [(.int (((fun i => (put4 (put4 (put4 (fun _ => (0 : Int32)) 4 p0) 8 ((XT.ushrL p1 (32 : Int32)).toInt32)) 12 ((p1).toInt32)) (i + 4)) 0) ^^^ (1 : Int32))), (.int (0 : Int32)), (.ref r258)]) _ _ _
        refine Go.i2b X259 hx (hb hby at_189) ?_
        show Go _ _ _ _ T259 (mkF m 190 #[.val (.int p0), .val (.long p1), .second, .val (.int p2), .val (.int (1 : Int32)), .val (.int (1 : Int32)), .val (.int (0 : Int32)), .val (.ref a244), .val (.int (3 : Int32)), .val (.ref a251), .val (.ref r258), .unset] [(.int (((((fun i => (put4 (put4 (put4 (fun _ => (0 : Int32)) 4 p0) 8 ((XT.ushrL p1 (32 : Int32)).toInt32)) 12 ((p1).toInt32)) (i + 4)) 0) ^^^ (1 : Int32))).toInt8.toInt32)), (.int (0 : Int32)), (.ref r258)]) _ _ _
        refine Go.bastoreB X259 hx hZ e259 P258_2 (by decide) (by decide) (hb hby at_190) ?_
        intro T260 h260 X260 e260 W260 A260
        have N260 := Fr.snoc X260 N259 P258_0
        have Z260 : n0 ≤ h260.size := by rw [Wr.size W260]; exact Z258
        have B260 : h0.size ≤ h260.size := by rw [Wr.size W260]; exact B258
        have A261 : Af Z h260 r258 kr258 .byte 12 (fun i => Value.int ((updI (fun i => (put4 (put4 (put4 (fun _ => (0 : Int32)) 4 p0) 8 ((XT.ushrL p1 (32 : Int32)).toInt32)) 12 ((p1).toInt32)) (i + 4)) 0 (((((((fun i => (put4 (put4 (put4 (fun _ => (0 : Int32)) 4 p0) 8 ((XT.ushrL p1 (32 : Int32)).toInt32)) 12 ((p1).toInt32)) (i + 4)) 0) ^^^ (1 : Int32))).toInt8.toInt32)).toInt8.toInt32)) i)) := Af.updI A260
        show Go _ _ _ _ T260 (mkF m 191 #[.val (.int p0), .val (.long p1), .second, .val (.int p2), .val (.int (1 : Int32)), .val (.int (1 : Int32)), .val (.int (0 : Int32)), .val (.ref a244), .val (.int (3 : Int32)), .val (.ref a251), .val (.ref r258), .unset] []) _ _ _
        refine Go.aload X260 hx (hb hby at_191) rfl rfl ?_
        show Go _ _ _ _ T260 (mkF m 193 #[.val (.int p0), .val (.long p1), .second, .val (.int p2), .val (.int (1 : Int32)), .val (.int (1 : Int32)), .val (.int (0 : Int32)), .val (.ref a244), .val (.int (3 : Int32)), .val (.ref a251), .val (.ref r258), .unset] [(.ref a251)]) _ _ _
        have F262 := (Af.other W260 (Af.keep F257 K258 nin0) ne_a244_r258)
        have F263 := (Af.other W260 (Af.keep P256_3 K258 nin0) ne_ab254_r258)
        have F264 := (Fld.other W260 (Fld.keep P256_1 K258 nin0) (Or.inl ne_a251_r258))
        have F265 := (Fld.other W260 (Fld.keep P256_2 K258 nin0) (Or.inl ne_a251_r258))
        refine Go.callV (W := 0) (argsL := []) (rest := []) X260 hx hZ hown (w28 hw) (w29 hw) (w31 hw) (w30 hw) (w3 hw) (w32 hw) (notFace_of_selects (args := #[]) (mvT hZ (w31 hw))) (by decide) (Exa.wr W260 (Exa.keep P256_0 K258)) (rm_tb3 l Z a0 hw a251 ab254 kb254 (put4 (put4 (put4 (fun _ => (0 : Int32)) 4 p0) 8 ((XT.ushrL p1 (32 : Int32)).toInt32)) 12 ((p1).toInt32)) h260 n0 Z260 (okB_put (okB_put (okB_put okB0))) F264 F265 F263) e260 (lenOf pd_6 rfl) (hb hby at_193) (by rw [hml]; rfl) rfl (Nat.le_of_eq rfl) (by decide) (by decide) (by decide) (by decide) ?_
        intro v266 T266 L266 X266 q266
        obtain ⟨r266, kr266, rfl, M266, K266, P266_0, P266_1, P266_2⟩ := q266
        have N266 := Fr.app N260 M266
        have Z266 : n0 ≤ T266.heap.size := Nat.le_trans Z260 K266.1
        have B266 : h0.size ≤ T266.heap.size := Nat.le_trans B260 K266.1
        have ne_a244_r266 : a244 ≠ r266 := Nat.ne_of_lt (Nat.lt_of_lt_of_le (F262).lt P266_1)
        have ne_a251_r266 : a251 ≠ r266 := Nat.ne_of_lt (Nat.lt_of_lt_of_le ((Exa.wr W260 (Exa.keep P256_0 K258))).lt P266_1)
        have ne_ab254_r266 : ab254 ≠ r266 := Nat.ne_of_lt (Nat.lt_of_lt_of_le (F263).lt P266_1)
        have ne_r258_r266 : r258 ≠ r266 := Nat.ne_of_lt (Nat.lt_of_lt_of_le (A261).lt P266_1)
        show Go _ _ _ _ T266 (mkF m 196 #[.val (.int p0), .val (.long p1), .second, .val (.int p2), .val (.int (1 : Int32)), .val (.int (1 : Int32)), .val (.int (0 : Int32)), .val (.ref a244), .val (.int (3 : Int32)), .val (.ref a251), .val (.ref r258), .unset] [(.ref r266)]) _ _ _
        refine Go.astore X266 hx (hb hby at_196) rfl (l' := #[.val (.int p0), .val (.long p1), .second, .val (.int p2), .val (.int (1 : Int32)), .val (.int (1 : Int32)), .val (.int (0 : Int32)), .val (.ref a244), .val (.int (3 : Int32)), .val (.ref a251), .val (.ref r258), .val (.ref r266)]) rfl ?_
        show Go _ _ _ _ T266 (mkF m 198 #[.val (.int p0), .val (.long p1), .second, .val (.int p2), .val (.int (1 : Int32)), .val (.int (1 : Int32)), .val (.int (0 : Int32)), .val (.ref a244), .val (.int (3 : Int32)), .val (.ref a251), .val (.ref r258), .val (.ref r266)] []) _ _ _
        refine Go.aload X266 hx (hb hby at_198) rfl rfl ?_
        show Go _ _ _ _ T266 (mkF m 200 #[.val (.int p0), .val (.long p1), .second, .val (.int p2), .val (.int (1 : Int32)), .val (.int (1 : Int32)), .val (.int (0 : Int32)), .val (.ref a244), .val (.int (3 : Int32)), .val (.ref a251), .val (.ref r258), .val (.ref r266)] [(.ref r266)]) _ _ _
        refine Go.aload X266 hx (hb hby at_200) rfl rfl ?_
        show Go _ _ _ _ T266 (mkF m 202 #[.val (.int p0), .val (.long p1), .second, .val (.int p2), .val (.int (1 : Int32)), .val (.int (1 : Int32)), .val (.int (0 : Int32)), .val (.ref a244), .val (.int (3 : Int32)), .val (.ref a251), .val (.ref r258), .val (.ref r266)] [(.ref a244), (.ref r266)]) _ _ _
        refine Go.iload X266 hx (hb hby at_202) rfl ?_
        show Go _ _ _ _ T266 (mkF m 204 #[.val (.int p0), .val (.long p1), .second, .val (.int p2), .val (.int (1 : Int32)), .val (.int (1 : Int32)), .val (.int (0 : Int32)), .val (.ref a244), .val (.int (3 : Int32)), .val (.ref a251), .val (.ref r258), .val (.ref r266)] [(.int (3 : Int32)), (.ref a244), (.ref r266)]) _ _ _
        refine Go.callS (W := 0) (argsL := [(.ref r266), (.ref a244), (.int (3 : Int32))]) (rest := []) X266 hx hZ hown (w51 hw) (w52 hw) (w53 hw) (w54 hw) (by decide) (rm_ma3 l Z a0 hw r266 a244 kr266 (fun i => (put4 (put4 (put4 (fun _ => (0 : Int32)) 4 p0) 8 ((XT.ushrL p1 (32 : Int32)).toInt32)) 12 ((p1).toInt32)) (i + 4)) k244 (updI (updI (updI (fun _ => (0 : Int32)) 0 p0) 1 (((p1 >>> (((32 : Int32)).toInt64 &&& 63))).toInt32)) 2 ((p1).toInt32)) T266.heap n0 Z266 P266_2 (Af.keep F262 K266 nin0) (unit_eq p0) ((unit_eq _).trans (hi_eq p1)) (unit_eq ((p1).toInt32))) rfl (lenOf pd_7 rfl) (hb hby at_204) (by rw [hml]; rfl) rfl (Nat.le_of_eq rfl) (by decide) (by decide) (by decide) (by decide) ?_
        intro v267 T267 L267 X267 q267
        obtain ⟨rfl, M267, e267⟩ := q267
        have N267 := Fr.app N266 M267
        show Go _ _ _ _ T267 (mkF m 207 #[.val (.int p0), .val (.long p1), .second, .val (.int p2), .val (.int (1 : Int32)), .val (.int (1 : Int32)), .val (.int (0 : Int32)), .val (.ref a244), .val (.int (3 : Int32)), .val (.ref a251), .val (.ref r258), .val (.ref r266)] [(.int (1 : Int32))]) _ _ _
        refine Go.retZ X267 hx hlk hret (by decide) (hb hby at_207) (by decide) (by decide) ?_
        rw [e267]
        exact ⟨rfl, N267⟩
      · refine Go.ifNo X0 hx (hb hby at_29) (XT.i0_eq_f c243) ?_
        show Go _ _ _ _ s₁ (mkF m 32 #[.val (.int p0), .val (.long p1), .second, .val (.int p2), .val (.int (1 : Int32)), .val (.int (1 : Int32)), .unset, .unset, .unset, .unset, .unset, .unset] []) _ _ _
        refine Go.iconst X0 hx (hb hby at_32) ?_
        show Go _ _ _ _ s₁ (mkF m 33 #[.val (.int p0), .val (.long p1), .second, .val (.int p2), .val (.int (1 : Int32)), .val (.int (1 : Int32)), .unset, .unset, .unset, .unset, .unset, .unset] [(.int (1 : Int32))]) _ _ _
        refine Go.goto X0 hx (hb hby at_33) (pc' := 37) (by decide) (by decide) ?_
        show Go _ _ _ _ s₁ (mkF m 37 #[.val (.int p0), .val (.long p1), .second, .val (.int p2), .val (.int (1 : Int32)), .val (.int (1 : Int32)), .unset, .unset, .unset, .unset, .unset, .unset] [(.int (1 : Int32))]) _ _ _
        refine Go.istore X0 hx (hb hby at_37) (l' := #[.val (.int p0), .val (.long p1), .second, .val (.int p2), .val (.int (1 : Int32)), .val (.int (1 : Int32)), .val (.int (1 : Int32)), .unset, .unset, .unset, .unset, .unset]) rfl ?_
        show Go _ _ _ _ s₁ (mkF m 39 #[.val (.int p0), .val (.long p1), .second, .val (.int p2), .val (.int (1 : Int32)), .val (.int (1 : Int32)), .val (.int (1 : Int32)), .unset, .unset, .unset, .unset, .unset] []) _ _ _
        refine Go.iconst X0 hx (hb hby at_39) ?_
        show Go _ _ _ _ s₁ (mkF m 40 #[.val (.int p0), .val (.long p1), .second, .val (.int p2), .val (.int (1 : Int32)), .val (.int (1 : Int32)), .val (.int (1 : Int32)), .unset, .unset, .unset, .unset, .unset] [(.int (3 : Int32))]) _ _ _
        refine Go.newarray (aty := .int) (cap := 3) X0 hx hZ (w0 hw) e0 (hb hby at_40) (by decide) (by decide) (by decide) (by decide) (by decide) ?_
        intro T268 h268 a268 k268 b268 X268 e268 E268 A268
        have g_a268 : n0 ≤ a268 := by rw [b268]; exact Z0
        have y_a268 : h0.size ≤ a268 := by rw [b268]; exact (Nat.le_refl _)
        have Z268 : n0 ≤ h268.size := Nat.le_trans Z0 E268.1
        have B268 : h0.size ≤ h268.size := Nat.le_trans (Nat.le_refl _) E268.1
        show Go _ _ _ _ T268 (mkF m 42 #[.val (.int p0), .val (.long p1), .second, .val (.int p2), .val (.int (1 : Int32)), .val (.int (1 : Int32)), .val (.int (1 : Int32)), .unset, .unset, .unset, .unset, .unset] [(.ref a268)]) _ _ _
        refine Go.astore X268 hx (hb hby at_42) rfl (l' := #[.val (.int p0), .val (.long p1), .second, .val (.int p2), .val (.int (1 : Int32)), .val (.int (1 : Int32)), .val (.int (1 : Int32)), .val (.ref a268), .unset, .unset, .unset, .unset]) rfl ?_
        show Go _ _ _ _ T268 (mkF m 44 #[.val (.int p0), .val (.long p1), .second, .val (.int p2), .val (.int (1 : Int32)), .val (.int (1 : Int32)), .val (.int (1 : Int32)), .val (.ref a268), .unset, .unset, .unset, .unset] []) _ _ _
        refine Go.iconst X268 hx (hb hby at_44) ?_
        show Go _ _ _ _ T268 (mkF m 45 #[.val (.int p0), .val (.long p1), .second, .val (.int p2), .val (.int (1 : Int32)), .val (.int (1 : Int32)), .val (.int (1 : Int32)), .val (.ref a268), .unset, .unset, .unset, .unset] [(.int (0 : Int32))]) _ _ _
        refine Go.istore X268 hx (hb hby at_45) (l' := #[.val (.int p0), .val (.long p1), .second, .val (.int p2), .val (.int (1 : Int32)), .val (.int (1 : Int32)), .val (.int (1 : Int32)), .val (.ref a268), .val (.int (0 : Int32)), .unset, .unset, .unset]) rfl ?_
        show Go _ _ _ _ T268 (mkF m 47 #[.val (.int p0), .val (.long p1), .second, .val (.int p2), .val (.int (1 : Int32)), .val (.int (1 : Int32)), .val (.int (1 : Int32)), .val (.ref a268), .val (.int (0 : Int32)), .unset, .unset, .unset] []) _ _ _
        refine Go.iload X268 hx (hb hby at_47) rfl ?_
        show Go _ _ _ _ T268 (mkF m 49 #[.val (.int p0), .val (.long p1), .second, .val (.int p2), .val (.int (1 : Int32)), .val (.int (1 : Int32)), .val (.int (1 : Int32)), .val (.ref a268), .val (.int (0 : Int32)), .unset, .unset, .unset] [(.int (1 : Int32))]) _ _ _
        refine Go.ifNo X268 hx (hb hby at_49) (XT.i0_eq_f (by decide)) ?_
        show Go _ _ _ _ T268 (mkF m 52 #[.val (.int p0), .val (.long p1), .second, .val (.int p2), .val (.int (1 : Int32)), .val (.int (1 : Int32)), .val (.int (1 : Int32)), .val (.ref a268), .val (.int (0 : Int32)), .unset, .unset, .unset] []) _ _ _
        refine Go.aload X268 hx (hb hby at_52) rfl rfl ?_
        show Go _ _ _ _ T268 (mkF m 54 #[.val (.int p0), .val (.long p1), .second, .val (.int p2), .val (.int (1 : Int32)), .val (.int (1 : Int32)), .val (.int (1 : Int32)), .val (.ref a268), .val (.int (0 : Int32)), .unset, .unset, .unset] [(.ref a268)]) _ _ _
        refine Go.iload X268 hx (hb hby at_54) rfl ?_
        show Go _ _ _ _ T268 (mkF m 56 #[.val (.int p0), .val (.long p1), .second, .val (.int p2), .val (.int (1 : Int32)), .val (.int (1 : Int32)), .val (.int (1 : Int32)), .val (.ref a268), .val (.int (0 : Int32)), .unset, .unset, .unset] [(.int (0 : Int32)), (.ref a268)]) _ _ _
        refine Go.iloadN X268 hx (hb hby at_56) rfl ?_
        show Go _ _ _ _ T268 (mkF m 57 #[.val (.int p0), .val (.long p1), .second, .val (.int p2), .val (.int (1 : Int32)), .val (.int (1 : Int32)), .val (.int (1 : Int32)), .val (.ref a268), .val (.int (0 : Int32)), .unset, .unset, .unset] [(.int p0), (.int (0 : Int32)), (.ref a268)]) _ _ _
        refine Go.iastore X268 hx hZ e268 A268 (by decide) (by decide) (hb hby at_57) ?_
        intro T269 h269 X269 e269 W269 A269
        have N269 := Fr.snoc X269 N0 g_a268
        have Z269 : n0 ≤ h269.size := by rw [Wr.size W269]; exact Z268
        have B269 : h0.size ≤ h269.size := by rw [Wr.size W269]; exact B268
        have A270 : Af Z h269 a268 k268 .int 3 (fun i => Value.int ((updI (fun _ => (0 : Int32)) 0 p0) i)) := Af.updI A269
        show Go _ _ _ _ T269 (mkF m 58 #[.val (.int p0), .val (.long p1), .second, .val (.int p2), .val (.int (1 : Int32)), .val (.int (1 : Int32)), .val (.int (1 : Int32)), .val (.ref a268), .val (.int (0 : Int32)), .unset, .unset, .unset] []) _ _ _
        refine Go.iload X269 hx (hb hby at_58) rfl ?_
        show Go _ _ _ _ T269 (mkF m 60 #[.val (.int p0), .val (.long p1), .second, .val (.int p2), .val (.int (1 : Int32)), .val (.int (1 : Int32)), .val (.int (1 : Int32)), .val (.ref a268), .val (.int (0 : Int32)), .unset, .unset, .unset] [(.int (0 : Int32))]) _ _ _
        refine Go.iconst X269 hx (hb hby at_60) ?_
        show Go _ _ _ _ T269 (mkF m 61 #[.val (.int p0), .val (.long p1), .second, .val (.int p2), .val (.int (1 : Int32)), .val (.int (1 : Int32)), .val (.int (1 : Int32)), .val (.ref a268), .val (.int (0 : Int32)), .unset, .unset, .unset] [(.int (1 : Int32)), (.int (0 : Int32))]) _ _ _
        refine Go.iadd X269 hx (hb hby at_61) ?_
        show Go _ _ _ _ T269 (mkF m 62 #[.val (.int p0), .val (.long p1), .second, .val (.int p2), .val (.int (1 : Int32)), .val (.int (1 : Int32)), .val (.int (1 : Int32)), .val (.ref a268), .val (.int (0 : Int32)), .unset, .unset, .unset] [(.int (1 : Int32))]) _ _ _
        refine Go.istore X269 hx (hb hby at_62) (l' := #[.val (.int p0), .val (.long p1), .second, .val (.int p2), .val (.int (1 : Int32)), .val (.int (1 : Int32)), .val (.int (1 : Int32)), .val (.ref a268), .val (.int (1 : Int32)), .unset, .unset, .unset]) rfl ?_
        show Go _ _ _ _ T269 (mkF m 64 #[.val (.int p0), .val (.long p1), .second, .val (.int p2), .val (.int (1 : Int32)), .val (.int (1 : Int32)), .val (.int (1 : Int32)), .val (.ref a268), .val (.int (1 : Int32)), .unset, .unset, .unset] []) _ _ _
        refine Go.iload X269 hx (hb hby at_64) rfl ?_
        show Go _ _ _ _ T269 (mkF m 66 #[.val (.int p0), .val (.long p1), .second, .val (.int p2), .val (.int (1 : Int32)), .val (.int (1 : Int32)), .val (.int (1 : Int32)), .val (.ref a268), .val (.int (1 : Int32)), .unset, .unset, .unset] [(.int (1 : Int32))]) _ _ _
        refine Go.ifNo X269 hx (hb hby at_66) (XT.i0_eq_f (by decide)) ?_
        show Go _ _ _ _ T269 (mkF m 69 #[.val (.int p0), .val (.long p1), .second, .val (.int p2), .val (.int (1 : Int32)), .val (.int (1 : Int32)), .val (.int (1 : Int32)), .val (.ref a268), .val (.int (1 : Int32)), .unset, .unset, .unset] []) _ _ _
        refine Go.aload X269 hx (hb hby at_69) rfl rfl ?_
        show Go _ _ _ _ T269 (mkF m 71 #[.val (.int p0), .val (.long p1), .second, .val (.int p2), .val (.int (1 : Int32)), .val (.int (1 : Int32)), .val (.int (1 : Int32)), .val (.ref a268), .val (.int (1 : Int32)), .unset, .unset, .unset] [(.ref a268)]) _ _ _
        refine Go.iload X269 hx (hb hby at_71) rfl ?_
        show Go _ _ _ _ T269 (mkF m 73 #[.val (.int p0), .val (.long p1), .second, .val (.int p2), .val (.int (1 : Int32)), .val (.int (1 : Int32)), .val (.int (1 : Int32)), .val (.ref a268), .val (.int (1 : Int32)), .unset, .unset, .unset] [(.int (1 : Int32)), (.ref a268)]) _ _ _
        refine Go.lloadN X269 hx (hb hby at_73) rfl ?_
        show Go _ _ _ _ T269 (mkF m 74 #[.val (.int p0), .val (.long p1), .second, .val (.int p2), .val (.int (1 : Int32)), .val (.int (1 : Int32)), .val (.int (1 : Int32)), .val (.ref a268), .val (.int (1 : Int32)), .unset, .unset, .unset] [(.long p1), (.int (1 : Int32)), (.ref a268)]) _ _ _
        refine Go.bipush X269 hx (hb hby at_74) ?_
        show Go _ _ _ _ T269 (mkF m 76 #[.val (.int p0), .val (.long p1), .second, .val (.int p2), .val (.int (1 : Int32)), .val (.int (1 : Int32)), .val (.int (1 : Int32)), .val (.ref a268), .val (.int (1 : Int32)), .unset, .unset, .unset] [(.int (32 : Int32)), (.long p1), (.int (1 : Int32)), (.ref a268)]) _ _ _
        refine Go.lshr X269 hx (hb hby at_76) ?_
        show Go _ _ _ _ T269 (mkF m 77 #[.val (.int p0), .val (.long p1), .second, .val (.int p2), .val (.int (1 : Int32)), .val (.int (1 : Int32)), .val (.int (1 : Int32)), .val (.ref a268), .val (.int (1 : Int32)), .unset, .unset, .unset] [(.long (p1 >>> (((32 : Int32)).toInt64 &&& 63))), (.int (1 : Int32)), (.ref a268)]) _ _ _
        refine Go.l2i X269 hx (hb hby at_77) ?_
        show Go _ _ _ _ T269 (mkF m 78 #[.val (.int p0), .val (.long p1), .second, .val (.int p2), .val (.int (1 : Int32)), .val (.int (1 : Int32)), .val (.int (1 : Int32)), .val (.ref a268), .val (.int (1 : Int32)), .unset, .unset, .unset] [(.int (((p1 >>> (((32 : Int32)).toInt64 &&& 63))).toInt32)), (.int (1 : Int32)), (.ref a268)]) _ _ _
        refine Go.iastore X269 hx hZ e269 A270 (by decide) (by decide) (hb hby at_78) ?_
        intro T271 h271 X271 e271 W271 A271
        have N271 := Fr.snoc X271 N269 g_a268
        have Z271 : n0 ≤ h271.size := by rw [Wr.size W271]; exact Z269
        have B271 : h0.size ≤ h271.size := by rw [Wr.size W271]; exact B269
        have A272 : Af Z h271 a268 k268 .int 3 (fun i => Value.int ((updI (updI (fun _ => (0 : Int32)) 0 p0) 1 (((p1 >>> (((32 : Int32)).toInt64 &&& 63))).toInt32)) i)) := Af.updI A271
        show Go _ _ _ _ T271 (mkF m 79 #[.val (.int p0), .val (.long p1), .second, .val (.int p2), .val (.int (1 : Int32)), .val (.int (1 : Int32)), .val (.int (1 : Int32)), .val (.ref a268), .val (.int (1 : Int32)), .unset, .unset, .unset] []) _ _ _
        refine Go.aload X271 hx (hb hby at_79) rfl rfl ?_
        show Go _ _ _ _ T271 (mkF m 81 #[.val (.int p0), .val (.long p1), .second, .val (.int p2), .val (.int (1 : Int32)), .val (.int (1 : Int32)), .val (.int (1 : Int32)), .val (.ref a268), .val (.int (1 : Int32)), .unset, .unset, .unset] [(.ref a268)]) _ _ _
        refine Go.iload X271 hx (hb hby at_81) rfl ?_
        show Go _ _ _ _ T271 (mkF m 83 #[.val (.int p0), .val (.long p1), .second, .val (.int p2), .val (.int (1 : Int32)), .val (.int (1 : Int32)), .val (.int (1 : Int32)), .val (.ref a268), .val (.int (1 : Int32)), .unset, .unset, .unset] [(.int (1 : Int32)), (.ref a268)]) _ _ _
        refine Go.iconst X271 hx (hb hby at_83) ?_
        show Go _ _ _ _ T271 (mkF m 84 #[.val (.int p0), .val (.long p1), .second, .val (.int p2), .val (.int (1 : Int32)), .val (.int (1 : Int32)), .val (.int (1 : Int32)), .val (.ref a268), .val (.int (1 : Int32)), .unset, .unset, .unset] [(.int (1 : Int32)), (.int (1 : Int32)), (.ref a268)]) _ _ _
        refine Go.iadd X271 hx (hb hby at_84) ?_
        show Go _ _ _ _ T271 (mkF m 85 #[.val (.int p0), .val (.long p1), .second, .val (.int p2), .val (.int (1 : Int32)), .val (.int (1 : Int32)), .val (.int (1 : Int32)), .val (.ref a268), .val (.int (1 : Int32)), .unset, .unset, .unset] [(.int (2 : Int32)), (.ref a268)]) _ _ _
        refine Go.lloadN X271 hx (hb hby at_85) rfl ?_
        show Go _ _ _ _ T271 (mkF m 86 #[.val (.int p0), .val (.long p1), .second, .val (.int p2), .val (.int (1 : Int32)), .val (.int (1 : Int32)), .val (.int (1 : Int32)), .val (.ref a268), .val (.int (1 : Int32)), .unset, .unset, .unset] [(.long p1), (.int (2 : Int32)), (.ref a268)]) _ _ _
        refine Go.l2i X271 hx (hb hby at_86) ?_
        show Go _ _ _ _ T271 (mkF m 87 #[.val (.int p0), .val (.long p1), .second, .val (.int p2), .val (.int (1 : Int32)), .val (.int (1 : Int32)), .val (.int (1 : Int32)), .val (.ref a268), .val (.int (1 : Int32)), .unset, .unset, .unset] [(.int ((p1).toInt32)), (.int (2 : Int32)), (.ref a268)]) _ _ _
        refine Go.iastore X271 hx hZ e271 A272 (by decide) (by decide) (hb hby at_87) ?_
        intro T273 h273 X273 e273 W273 A273
        have N273 := Fr.snoc X273 N271 g_a268
        have Z273 : n0 ≤ h273.size := by rw [Wr.size W273]; exact Z271
        have B273 : h0.size ≤ h273.size := by rw [Wr.size W273]; exact B271
        have A274 : Af Z h273 a268 k268 .int 3 (fun i => Value.int ((updI (updI (updI (fun _ => (0 : Int32)) 0 p0) 1 (((p1 >>> (((32 : Int32)).toInt64 &&& 63))).toInt32)) 2 ((p1).toInt32)) i)) := Af.updI A273
        show Go _ _ _ _ T273 (mkF m 88 #[.val (.int p0), .val (.long p1), .second, .val (.int p2), .val (.int (1 : Int32)), .val (.int (1 : Int32)), .val (.int (1 : Int32)), .val (.ref a268), .val (.int (1 : Int32)), .unset, .unset, .unset] []) _ _ _
        refine Go.iload X273 hx (hb hby at_88) rfl ?_
        show Go _ _ _ _ T273 (mkF m 90 #[.val (.int p0), .val (.long p1), .second, .val (.int p2), .val (.int (1 : Int32)), .val (.int (1 : Int32)), .val (.int (1 : Int32)), .val (.ref a268), .val (.int (1 : Int32)), .unset, .unset, .unset] [(.int (1 : Int32))]) _ _ _
        refine Go.iconst X273 hx (hb hby at_90) ?_
        show Go _ _ _ _ T273 (mkF m 91 #[.val (.int p0), .val (.long p1), .second, .val (.int p2), .val (.int (1 : Int32)), .val (.int (1 : Int32)), .val (.int (1 : Int32)), .val (.ref a268), .val (.int (1 : Int32)), .unset, .unset, .unset] [(.int (2 : Int32)), (.int (1 : Int32))]) _ _ _
        refine Go.iadd X273 hx (hb hby at_91) ?_
        show Go _ _ _ _ T273 (mkF m 92 #[.val (.int p0), .val (.long p1), .second, .val (.int p2), .val (.int (1 : Int32)), .val (.int (1 : Int32)), .val (.int (1 : Int32)), .val (.ref a268), .val (.int (1 : Int32)), .unset, .unset, .unset] [(.int (3 : Int32))]) _ _ _
        refine Go.istore X273 hx (hb hby at_92) (l' := #[.val (.int p0), .val (.long p1), .second, .val (.int p2), .val (.int (1 : Int32)), .val (.int (1 : Int32)), .val (.int (1 : Int32)), .val (.ref a268), .val (.int (3 : Int32)), .unset, .unset, .unset]) rfl ?_
        show Go _ _ _ _ T273 (mkF m 94 #[.val (.int p0), .val (.long p1), .second, .val (.int p2), .val (.int (1 : Int32)), .val (.int (1 : Int32)), .val (.int (1 : Int32)), .val (.ref a268), .val (.int (3 : Int32)), .unset, .unset, .unset] []) _ _ _
        refine Go.newO X273 hx hZ hown (w1 hw) (w2 hw) (w3 hw) e273 (hb hby at_94) (by decide) (by decide) ?_
        intro T275 h275 a275 b275 X275 e275 E275 A275 D275
        have g_a275 : n0 ≤ a275 := by rw [b275]; exact Z273
        have y_a275 : h0.size ≤ a275 := by rw [b275]; exact B273
        have ne_a268_a275 : a268 ≠ a275 := by rw [b275]; exact Nat.ne_of_lt A274.lt
        have Z275 : n0 ≤ h275.size := Nat.le_trans Z273 E275.1
        have B275 : h0.size ≤ h275.size := Nat.le_trans B273 E275.1
        show Go _ _ _ _ T275 (mkF m 97 #[.val (.int p0), .val (.long p1), .second, .val (.int p2), .val (.int (1 : Int32)), .val (.int (1 : Int32)), .val (.int (1 : Int32)), .val (.ref a268), .val (.int (3 : Int32)), .unset, .unset, .unset] [(.ref a275)]) _ _ _
        refine Go.dup X275 hx (hb hby at_97) rfl ?_
        show Go _ _ _ _ T275 (mkF m 98 #[.val (.int p0), .val (.long p1), .second, .val (.int p2), .val (.int (1 : Int32)), .val (.int (1 : Int32)), .val (.int (1 : Int32)), .val (.ref a268), .val (.int (3 : Int32)), .unset, .unset, .unset] [(.ref a275), (.ref a275)]) _ _ _
        have F276 := (D275 (Or.inl (w12 hw)) (ty := (.array .byte)) (by decide))
        have F277 := (D275 (Or.inl (w14 hw)) (ty := .int) (by decide))
        refine Go.callI (W := 1) (a := a275) (argsL := []) (rest := [(.ref a275)]) X275 hx hZ hown rfl (w4 hw) (w5 hw) (w3 hw) (w6 hw) (by decide) (rm_init l Z a0 hw a275 h275 n0 Z275 A275 g_a275 F276 F277) e275 (lenOf pd_5 rfl) (hb hby at_98) (by rw [hml]; rfl) rfl (Nat.le_of_eq rfl) (by decide) (by decide) (by decide) (by decide) ?_
        intro v278 T278 L278 X278 q278
        obtain ⟨ab278, kb278, rfl, M278, K278, P278_0, P278_1, P278_2, P278_3, P278_4, P278_5, P278_6⟩ := q278
        have N278 := Fr.app N273 M278
        have Z278 : n0 ≤ T278.heap.size := Nat.le_trans Z275 K278.1
        have B278 : h0.size ≤ T278.heap.size := Nat.le_trans B275 K278.1
        have ne_a268_ab278 : a268 ≠ ab278 := Nat.ne_of_lt (Nat.lt_of_lt_of_le ((Af.ext E275 A274)).lt P278_2)
        have ne_a275_ab278 : a275 ≠ ab278 := Nat.ne_of_lt (Nat.lt_of_lt_of_le (A275).lt P278_2)
        show Go _ _ _ _ T278 (mkF m 101 #[.val (.int p0), .val (.long p1), .second, .val (.int p2), .val (.int (1 : Int32)), .val (.int (1 : Int32)), .val (.int (1 : Int32)), .val (.ref a268), .val (.int (3 : Int32)), .unset, .unset, .unset] [(.ref a275)]) _ _ _
        refine Go.astore X278 hx (hb hby at_101) rfl (l' := #[.val (.int p0), .val (.long p1), .second, .val (.int p2), .val (.int (1 : Int32)), .val (.int (1 : Int32)), .val (.int (1 : Int32)), .val (.ref a268), .val (.int (3 : Int32)), .val (.ref a275), .unset, .unset]) rfl ?_
        show Go _ _ _ _ T278 (mkF m 103 #[.val (.int p0), .val (.long p1), .second, .val (.int p2), .val (.int (1 : Int32)), .val (.int (1 : Int32)), .val (.int (1 : Int32)), .val (.ref a268), .val (.int (3 : Int32)), .val (.ref a275), .unset, .unset] []) _ _ _
        refine Go.iload X278 hx (hb hby at_103) rfl ?_
        show Go _ _ _ _ T278 (mkF m 105 #[.val (.int p0), .val (.long p1), .second, .val (.int p2), .val (.int (1 : Int32)), .val (.int (1 : Int32)), .val (.int (1 : Int32)), .val (.ref a268), .val (.int (3 : Int32)), .val (.ref a275), .unset, .unset] [(.int (1 : Int32))]) _ _ _
        refine Go.ifNo X278 hx (hb hby at_105) (XT.i0_eq_f (by decide)) ?_
        show Go _ _ _ _ T278 (mkF m 108 #[.val (.int p0), .val (.long p1), .second, .val (.int p2), .val (.int (1 : Int32)), .val (.int (1 : Int32)), .val (.int (1 : Int32)), .val (.ref a268), .val (.int (3 : Int32)), .val (.ref a275), .unset, .unset] []) _ _ _
        refine Go.aload X278 hx (hb hby at_108) rfl rfl ?_
        show Go _ _ _ _ T278 (mkF m 110 #[.val (.int p0), .val (.long p1), .second, .val (.int p2), .val (.int (1 : Int32)), .val (.int (1 : Int32)), .val (.int (1 : Int32)), .val (.ref a268), .val (.int (3 : Int32)), .val (.ref a275), .unset, .unset] [(.ref a275)]) _ _ _
        refine Go.lloadN X278 hx (hb hby at_110) rfl ?_
        show Go _ _ _ _ T278 (mkF m 111 #[.val (.int p0), .val (.long p1), .second, .val (.int p2), .val (.int (1 : Int32)), .val (.int (1 : Int32)), .val (.int (1 : Int32)), .val (.ref a268), .val (.int (3 : Int32)), .val (.ref a275), .unset, .unset] [(.long p1), (.ref a275)]) _ _ _
        refine Go.ldc2 X278 hx hZ hown (w64 hw) (hb hby at_111) ?_
        show Go _ _ _ _ T278 (mkF m 114 #[.val (.int p0), .val (.long p1), .second, .val (.int p2), .val (.int (1 : Int32)), .val (.int (1 : Int32)), .val (.int (1 : Int32)), .val (.ref a268), .val (.int (3 : Int32)), .val (.ref a275), .unset, .unset] [(.long (-1 : Int64)), (.long p1), (.ref a275)]) _ _ _
        refine Go.lxor X278 hx (hb hby at_114) ?_
        show Go _ _ _ _ T278 (mkF m 115 #[.val (.int p0), .val (.long p1), .second, .val (.int p2), .val (.int (1 : Int32)), .val (.int (1 : Int32)), .val (.int (1 : Int32)), .val (.ref a268), .val (.int (3 : Int32)), .val (.ref a275), .unset, .unset] [(.long (p1 ^^^ (-1 : Int64))), (.ref a275)]) _ _ _
        refine Go.callV (W := 0) (argsL := [(.long (p1 ^^^ (-1 : Int64)))]) (rest := []) X278 hx hZ hown (w58 hw) (w59 hw) (w61 hw) (w60 hw) (w3 hw) (w62 hw) (notFace_of_selects (args := #[]) (mvT hZ (w61 hw))) (by decide) P278_0 (rm_wl4 l Z a0 hw a275 (p1 ^^^ (-1 : Int64)) ab278 kb278 (fun _ => (0 : Int32)) T278.heap n0 Z278 P278_0 g_a275 P278_1 P278_3 P278_4 P278_6 P278_5) rfl (lenOf pd_8 rfl) (hb hby at_115) (by rw [hml]; rfl) rfl (Nat.le_of_eq rfl) (by decide) (by decide) (by decide) (by decide) ?_
        intro v279 T279 L279 X279 q279
        obtain ⟨rfl, M279, K279, P279_0, P279_1, P279_2, P279_3⟩ := q279
        have N279 := Fr.app N278 M279
        have Z279 : n0 ≤ T279.heap.size := Nat.le_trans Z278 K279.1
        have B279 : h0.size ≤ T279.heap.size := Nat.le_trans B278 K279.1
        show Go _ _ _ _ T279 (mkF m 118 #[.val (.int p0), .val (.long p1), .second, .val (.int p2), .val (.int (1 : Int32)), .val (.int (1 : Int32)), .val (.int (1 : Int32)), .val (.ref a268), .val (.int (3 : Int32)), .val (.ref a275), .unset, .unset] []) _ _ _
        refine Go.aload X279 hx (hb hby at_118) rfl rfl ?_
        show Go _ _ _ _ T279 (mkF m 120 #[.val (.int p0), .val (.long p1), .second, .val (.int p2), .val (.int (1 : Int32)), .val (.int (1 : Int32)), .val (.int (1 : Int32)), .val (.ref a268), .val (.int (3 : Int32)), .val (.ref a275), .unset, .unset] [(.ref a275)]) _ _ _
        refine Go.iloadN X279 hx (hb hby at_120) rfl ?_
        show Go _ _ _ _ T279 (mkF m 121 #[.val (.int p0), .val (.long p1), .second, .val (.int p2), .val (.int (1 : Int32)), .val (.int (1 : Int32)), .val (.int (1 : Int32)), .val (.ref a268), .val (.int (3 : Int32)), .val (.ref a275), .unset, .unset] [(.int p0), (.ref a275)]) _ _ _
        refine Go.iconst X279 hx (hb hby at_121) ?_
        show Go _ _ _ _ T279 (mkF m 122 #[.val (.int p0), .val (.long p1), .second, .val (.int p2), .val (.int (1 : Int32)), .val (.int (1 : Int32)), .val (.int (1 : Int32)), .val (.ref a268), .val (.int (3 : Int32)), .val (.ref a275), .unset, .unset] [(.int (-1 : Int32)), (.int p0), (.ref a275)]) _ _ _
        refine Go.ixor X279 hx (hb hby at_122) ?_
        show Go _ _ _ _ T279 (mkF m 123 #[.val (.int p0), .val (.long p1), .second, .val (.int p2), .val (.int (1 : Int32)), .val (.int (1 : Int32)), .val (.int (1 : Int32)), .val (.ref a268), .val (.int (3 : Int32)), .val (.ref a275), .unset, .unset] [(.int (p0 ^^^ (-1 : Int32))), (.ref a275)]) _ _ _
        refine Go.callV (W := 0) (argsL := [(.int (p0 ^^^ (-1 : Int32)))]) (rest := []) X279 hx hZ hown (w15 hw) (w16 hw) (w18 hw) (w17 hw) (w3 hw) (w19 hw) (notFace_of_selects (args := #[]) (mvT hZ (w18 hw))) (by decide) P279_0 (rm_wi12 l Z a0 hw a275 (p0 ^^^ (-1 : Int32)) ab278 kb278 (put4 (put4 (fun _ => (0 : Int32)) 4 ((XT.ushrL (p1 ^^^ (-1 : Int64)) (32 : Int32)).toInt32)) 8 (((p1 ^^^ (-1 : Int64))).toInt32)) T279.heap n0 Z279 P279_0 g_a275 P278_1 P278_3 P279_1 P279_3 P279_2) rfl (lenOf pd_0 rfl) (hb hby at_123) (by rw [hml]; rfl) rfl (Nat.le_of_eq rfl) (by decide) (by decide) (by decide) (by decide) ?_
        intro v280 T280 L280 X280 q280
        obtain ⟨rfl, M280, K280, P280_0, P280_1, P280_2, P280_3⟩ := q280
        have N280 := Fr.app N279 M280
        have Z280 : n0 ≤ T280.heap.size := Nat.le_trans Z279 K280.1
        have B280 : h0.size ≤ T280.heap.size := Nat.le_trans B279 K280.1
        show Go _ _ _ _ T280 (mkF m 126 #[.val (.int p0), .val (.long p1), .second, .val (.int p2), .val (.int (1 : Int32)), .val (.int (1 : Int32)), .val (.int (1 : Int32)), .val (.ref a268), .val (.int (3 : Int32)), .val (.ref a275), .unset, .unset] []) _ _ _
        refine Go.aload X280 hx (hb hby at_126) rfl rfl ?_
        show Go _ _ _ _ T280 (mkF m 128 #[.val (.int p0), .val (.long p1), .second, .val (.int p2), .val (.int (1 : Int32)), .val (.int (1 : Int32)), .val (.int (1 : Int32)), .val (.ref a268), .val (.int (3 : Int32)), .val (.ref a275), .unset, .unset] [(.ref a275)]) _ _ _
        refine Go.callV (W := 0) (argsL := []) (rest := []) X280 hx hZ hown (w65 hw) (w66 hw) (w68 hw) (w67 hw) (w3 hw) (w69 hw) (notFace_of_selects (args := #[]) (mvT hZ (w68 hw))) (by decide) P280_0 (rm_rs l Z a0 hw a275 (16 : Int32) ab278 T280.heap n0 Z280 P280_0 g_a275 P280_2 P280_1) rfl (lenOf pd_5 rfl) (hb hby at_128) (by rw [hml]; rfl) rfl (Nat.le_of_eq rfl) (by decide) (by decide) (by decide) (by decide) ?_
        intro v281 T281 L281 X281 q281
        obtain ⟨rfl, M281, K281, P281_0, P281_1, P281_2⟩ := q281
        have N281 := Fr.app N280 M281
        have Z281 : n0 ≤ T281.heap.size := Nat.le_trans Z280 K281.1
        have B281 : h0.size ≤ T281.heap.size := Nat.le_trans B280 K281.1
        show Go _ _ _ _ T281 (mkF m 131 #[.val (.int p0), .val (.long p1), .second, .val (.int p2), .val (.int (1 : Int32)), .val (.int (1 : Int32)), .val (.int (1 : Int32)), .val (.ref a268), .val (.int (3 : Int32)), .val (.ref a275), .unset, .unset] []) _ _ _
        refine Go.iload X281 hx (hb hby at_131) rfl ?_
        show Go _ _ _ _ T281 (mkF m 133 #[.val (.int p0), .val (.long p1), .second, .val (.int p2), .val (.int (1 : Int32)), .val (.int (1 : Int32)), .val (.int (1 : Int32)), .val (.ref a268), .val (.int (3 : Int32)), .val (.ref a275), .unset, .unset] [(.int (1 : Int32))]) _ _ _
        refine Go.ifNo X281 hx (hb hby at_133) (XT.i0_eq_f (by decide)) ?_
        show Go _ _ _ _ T281 (mkF m 136 #[.val (.int p0), .val (.long p1), .second, .val (.int p2), .val (.int (1 : Int32)), .val (.int (1 : Int32)), .val (.int (1 : Int32)), .val (.ref a268), .val (.int (3 : Int32)), .val (.ref a275), .unset, .unset] []) _ _ _
        refine Go.aload X281 hx (hb hby at_136) rfl rfl ?_
        show Go _ _ _ _ T281 (mkF m 138 #[.val (.int p0), .val (.long p1), .second, .val (.int p2), .val (.int (1 : Int32)), .val (.int (1 : Int32)), .val (.int (1 : Int32)), .val (.ref a268), .val (.int (3 : Int32)), .val (.ref a275), .unset, .unset] [(.ref a275)]) _ _ _
        refine Go.iloadN X281 hx (hb hby at_138) rfl ?_
        show Go _ _ _ _ T281 (mkF m 139 #[.val (.int p0), .val (.long p1), .second, .val (.int p2), .val (.int (1 : Int32)), .val (.int (1 : Int32)), .val (.int (1 : Int32)), .val (.ref a268), .val (.int (3 : Int32)), .val (.ref a275), .unset, .unset] [(.int p0), (.ref a275)]) _ _ _
        have F282 := (Af.keep P280_3 K281 (ninS (Ne.symm P278_3) nin0))
        refine Go.callV (W := 0) (argsL := [(.int p0)]) (rest := []) X281 hx hZ hown (w15 hw) (w16 hw) (w18 hw) (w17 hw) (w3 hw) (w19 hw) (notFace_of_selects (args := #[]) (mvT hZ (w18 hw))) (by decide) P281_0 (rm_wi4 l Z a0 hw a275 p0 ab278 kb278 (put4 (put4 (put4 (fun _ => (0 : Int32)) 4 ((XT.ushrL (p1 ^^^ (-1 : Int64)) (32 : Int32)).toInt32)) 8 (((p1 ^^^ (-1 : Int64))).toInt32)) 12 (p0 ^^^ (-1 : Int32))) T281.heap n0 Z281 P281_0 g_a275 P278_1 P278_3 P281_2 F282 P281_1) rfl (lenOf pd_0 rfl) (hb hby at_139) (by rw [hml]; rfl) rfl (Nat.le_of_eq rfl) (by decide) (by decide) (by decide) (by decide) ?_
        intro v283 T283 L283 X283 q283
        obtain ⟨rfl, M283, K283, P283_0, P283_1, P283_2, P283_3⟩ := q283
        have N283 := Fr.app N281 M283
        have Z283 : n0 ≤ T283.heap.size := Nat.le_trans Z281 K283.1
        have B283 : h0.size ≤ T283.heap.size := Nat.le_trans B281 K283.1
        show Go _ _ _ _ T283 (mkF m 142 #[.val (.int p0), .val (.long p1), .second, .val (.int p2), .val (.int (1 : Int32)), .val (.int (1 : Int32)), .val (.int (1 : Int32)), .val (.ref a268), .val (.int (3 : Int32)), .val (.ref a275), .unset, .unset] []) _ _ _
        refine Go.iload X283 hx (hb hby at_142) rfl ?_
        show Go _ _ _ _ T283 (mkF m 144 #[.val (.int p0), .val (.long p1), .second, .val (.int p2), .val (.int (1 : Int32)), .val (.int (1 : Int32)), .val (.int (1 : Int32)), .val (.ref a268), .val (.int (3 : Int32)), .val (.ref a275), .unset, .unset] [(.int (1 : Int32))]) _ _ _
        refine Go.ifNo X283 hx (hb hby at_144) (XT.i0_eq_f (by decide)) ?_
        show Go _ _ _ _ T283 (mkF m 147 #[.val (.int p0), .val (.long p1), .second, .val (.int p2), .val (.int (1 : Int32)), .val (.int (1 : Int32)), .val (.int (1 : Int32)), .val (.ref a268), .val (.int (3 : Int32)), .val (.ref a275), .unset, .unset] []) _ _ _
        refine Go.aload X283 hx (hb hby at_147) rfl rfl ?_
        show Go _ _ _ _ T283 (mkF m 149 #[.val (.int p0), .val (.long p1), .second, .val (.int p2), .val (.int (1 : Int32)), .val (.int (1 : Int32)), .val (.int (1 : Int32)), .val (.ref a268), .val (.int (3 : Int32)), .val (.ref a275), .unset, .unset] [(.ref a275)]) _ _ _
        refine Go.lloadN X283 hx (hb hby at_149) rfl ?_
        show Go _ _ _ _ T283 (mkF m 150 #[.val (.int p0), .val (.long p1), .second, .val (.int p2), .val (.int (1 : Int32)), .val (.int (1 : Int32)), .val (.int (1 : Int32)), .val (.ref a268), .val (.int (3 : Int32)), .val (.ref a275), .unset, .unset] [(.long p1), (.ref a275)]) _ _ _
        refine Go.callV (W := 0) (argsL := [(.long p1)]) (rest := []) X283 hx hZ hown (w58 hw) (w59 hw) (w61 hw) (w60 hw) (w3 hw) (w62 hw) (notFace_of_selects (args := #[]) (mvT hZ (w61 hw))) (by decide) P283_0 (rm_wl8 l Z a0 hw a275 p1 ab278 kb278 (put4 (put4 (put4 (put4 (fun _ => (0 : Int32)) 4 ((XT.ushrL (p1 ^^^ (-1 : Int64)) (32 : Int32)).toInt32)) 8 (((p1 ^^^ (-1 : Int64))).toInt32)) 12 (p0 ^^^ (-1 : Int32))) 4 p0) T283.heap n0 Z283 P283_0 g_a275 P278_1 P278_3 P283_1 P283_3 P283_2) rfl (lenOf pd_8 rfl) (hb hby at_150) (by rw [hml]; rfl) rfl (Nat.le_of_eq rfl) (by decide) (by decide) (by decide) (by decide) ?_
        intro v284 T284 L284 X284 q284
        obtain ⟨rfl, M284, K284, P284_0, P284_1, P284_2, P284_3⟩ := q284
        have N284 := Fr.app N283 M284
        have Z284 : n0 ≤ T284.heap.size := Nat.le_trans Z283 K284.1
        have B284 : h0.size ≤ T284.heap.size := Nat.le_trans B283 K284.1
        show Go _ _ _ _ T284 (mkF m 153 #[.val (.int p0), .val (.long p1), .second, .val (.int p2), .val (.int (1 : Int32)), .val (.int (1 : Int32)), .val (.int (1 : Int32)), .val (.ref a268), .val (.int (3 : Int32)), .val (.ref a275), .unset, .unset] []) _ _ _
        refine Go.aload X284 hx (hb hby at_153) rfl rfl ?_
        show Go _ _ _ _ T284 (mkF m 155 #[.val (.int p0), .val (.long p1), .second, .val (.int p2), .val (.int (1 : Int32)), .val (.int (1 : Int32)), .val (.int (1 : Int32)), .val (.ref a268), .val (.int (3 : Int32)), .val (.ref a275), .unset, .unset] [(.ref a275)]) _ _ _
        have F285 := (Af.keep (Af.keep (Af.keep (Af.keep (Af.keep (Af.keep (Af.ext E275 A274) K278 (ninS ne_a268_a275 nin0)) K279 (ninS ne_a268_a275 (ninS ne_a268_ab278 nin0))) K280 (ninS ne_a268_a275 (ninS ne_a268_ab278 nin0))) K281 (ninS ne_a268_a275 nin0)) K283 (ninS ne_a268_a275 (ninS ne_a268_ab278 nin0))) K284 (ninS ne_a268_a275 (ninS ne_a268_ab278 nin0)))
        refine Go.callV (W := 0) (argsL := []) (rest := []) X284 hx hZ hown (w28 hw) (w29 hw) (w31 hw) (w30 hw) (w3 hw) (w32 hw) (notFace_of_selects (args := #[]) (mvT hZ (w31 hw))) (by decide) P284_0 (rm_tb3 l Z a0 hw a275 ab278 kb278 (put4 (put4 (put4 (put4 (put4 (put4 (fun _ => (0 : Int32)) 4 ((XT.ushrL (p1 ^^^ (-1 : Int64)) (32 : Int32)).toInt32)) 8 (((p1 ^^^ (-1 : Int64))).toInt32)) 12 (p0 ^^^ (-1 : Int32))) 4 p0) 8 ((XT.ushrL p1 (32 : Int32)).toInt32)) 12 ((p1).toInt32)) T284.heap n0 Z284 (okB_put (okB_put (okB_put (okB_put (okB_put (okB_put okB0)))))) P284_1 P284_2 P284_3) rfl (lenOf pd_6 rfl) (hb hby at_155) (by rw [hml]; rfl) rfl (Nat.le_of_eq rfl) (by decide) (by decide) (by decide) (by decide) ?_
        intro v286 T286 L286 X286 q286
        obtain ⟨r286, kr286, rfl, M286, K286, P286_0, P286_1, P286_2⟩ := q286
        have N286 := Fr.app N284 M286
        have Z286 : n0 ≤ T286.heap.size := Nat.le_trans Z284 K286.1
        have B286 : h0.size ≤ T286.heap.size := Nat.le_trans B284 K286.1
        have ne_a268_r286 : a268 ≠ r286 := Nat.ne_of_lt (Nat.lt_of_lt_of_le (F285).lt P286_1)
        have ne_a275_r286 : a275 ≠ r286 := Nat.ne_of_lt (Nat.lt_of_lt_of_le (P284_0).lt P286_1)
        have ne_ab278_r286 : ab278 ≠ r286 := Nat.ne_of_lt (Nat.lt_of_lt_of_le (P284_3).lt P286_1)
        show Go _ _ _ _ T286 (mkF m 158 #[.val (.int p0), .val (.long p1), .second, .val (.int p2), .val (.int (1 : Int32)), .val (.int (1 : Int32)), .val (.int (1 : Int32)), .val (.ref a268), .val (.int (3 : Int32)), .val (.ref a275), .unset, .unset] [(.ref r286)]) _ _ _
        refine Go.astore X286 hx (hb hby at_158) rfl (l' := #[.val (.int p0), .val (.long p1), .second, .val (.int p2), .val (.int (1 : Int32)), .val (.int (1 : Int32)), .val (.int (1 : Int32)), .val (.ref a268), .val (.int (3 : Int32)), .val (.ref a275), .val (.ref r286), .unset]) rfl ?_
        show Go _ _ _ _ T286 (mkF m 160 #[.val (.int p0), .val (.long p1), .second, .val (.int p2), .val (.int (1 : Int32)), .val (.int (1 : Int32)), .val (.int (1 : Int32)), .val (.ref a268), .val (.int (3 : Int32)), .val (.ref a275), .val (.ref r286), .unset] []) _ _ _
        refine Go.aload X286 hx (hb hby at_160) rfl rfl ?_
        show Go _ _ _ _ T286 (mkF m 162 #[.val (.int p0), .val (.long p1), .second, .val (.int p2), .val (.int (1 : Int32)), .val (.int (1 : Int32)), .val (.int (1 : Int32)), .val (.ref a268), .val (.int (3 : Int32)), .val (.ref a275), .val (.ref r286), .unset] [(.ref r286)]) _ _ _
        refine Go.aload X286 hx (hb hby at_162) rfl rfl ?_
        show Go _ _ _ _ T286 (mkF m 164 #[.val (.int p0), .val (.long p1), .second, .val (.int p2), .val (.int (1 : Int32)), .val (.int (1 : Int32)), .val (.int (1 : Int32)), .val (.ref a268), .val (.int (3 : Int32)), .val (.ref a275), .val (.ref r286), .unset] [(.ref a268), (.ref r286)]) _ _ _
        refine Go.iload X286 hx (hb hby at_164) rfl ?_
        show Go _ _ _ _ T286 (mkF m 166 #[.val (.int p0), .val (.long p1), .second, .val (.int p2), .val (.int (1 : Int32)), .val (.int (1 : Int32)), .val (.int (1 : Int32)), .val (.ref a268), .val (.int (3 : Int32)), .val (.ref a275), .val (.ref r286), .unset] [(.int (3 : Int32)), (.ref a268), (.ref r286)]) _ _ _
        refine Go.callS (W := 0) (argsL := [(.ref r286), (.ref a268), (.int (3 : Int32))]) (rest := []) X286 hx hZ hown (w51 hw) (w52 hw) (w53 hw) (w54 hw) (by decide) (rm_ma3 l Z a0 hw r286 a268 kr286 (fun i => (put4 (put4 (put4 (put4 (put4 (put4 (fun _ => (0 : Int32)) 4 ((XT.ushrL (p1 ^^^ (-1 : Int64)) (32 : Int32)).toInt32)) 8 (((p1 ^^^ (-1 : Int64))).toInt32)) 12 (p0 ^^^ (-1 : Int32))) 4 p0) 8 ((XT.ushrL p1 (32 : Int32)).toInt32)) 12 ((p1).toInt32)) (i + 4)) k268 (updI (updI (updI (fun _ => (0 : Int32)) 0 p0) 1 (((p1 >>> (((32 : Int32)).toInt64 &&& 63))).toInt32)) 2 ((p1).toInt32)) T286.heap n0 Z286 P286_2 (Af.keep F285 K286 nin0) (unit_eq p0) ((unit_eq _).trans (hi_eq p1)) (unit_eq ((p1).toInt32))) rfl (lenOf pd_7 rfl) (hb hby at_166) (by rw [hml]; rfl) rfl (Nat.le_of_eq rfl) (by decide) (by decide) (by decide) (by decide) ?_
        intro v287 T287 L287 X287 q287
        obtain ⟨rfl, M287, e287⟩ := q287
        have N287 := Fr.app N286 M287
        show Go _ _ _ _ T287 (mkF m 169 #[.val (.int p0), .val (.long p1), .second, .val (.int p2), .val (.int (1 : Int32)), .val (.int (1 : Int32)), .val (.int (1 : Int32)), .val (.ref a268), .val (.int (3 : Int32)), .val (.ref a275), .val (.ref r286), .unset] [(.int (1 : Int32))]) _ _ _
        refine Go.ifYes X287 hx (hb hby at_169) (XT.i0_ne_t (by decide)) (pc' := 174) (by decide) (by decide) ?_
        show Go _ _ _ _ T287 (mkF m 174 #[.val (.int p0), .val (.long p1), .second, .val (.int p2), .val (.int (1 : Int32)), .val (.int (1 : Int32)), .val (.int (1 : Int32)), .val (.ref a268), .val (.int (3 : Int32)), .val (.ref a275), .val (.ref r286), .unset] []) _ _ _
        refine Go.aload X287 hx (hb hby at_174) rfl rfl ?_
        show Go _ _ _ _ T287 (mkF m 176 #[.val (.int p0), .val (.long p1), .second, .val (.int p2), .val (.int (1 : Int32)), .val (.int (1 : Int32)), .val (.int (1 : Int32)), .val (.ref a268), .val (.int (3 : Int32)), .val (.ref a275), .val (.ref r286), .unset] [(.ref r286)]) _ _ _
        refine Go.alen X287 hx hZ e287 P286_2 (hb hby at_176) ?_
        show Go _ _ _ _ T287 (mkF m 177 #[.val (.int p0), .val (.long p1), .second, .val (.int p2), .val (.int (1 : Int32)), .val (.int (1 : Int32)), .val (.int (1 : Int32)), .val (.ref a268), .val (.int (3 : Int32)), .val (.ref a275), .val (.ref r286), .unset] [(.int (12 : Int32))]) _ _ _
        refine Go.ifNo X287 hx (hb hby at_177) (XT.i0_le_f (by decide)) ?_
        show Go _ _ _ _ T287 (mkF m 180 #[.val (.int p0), .val (.long p1), .second, .val (.int p2), .val (.int (1 : Int32)), .val (.int (1 : Int32)), .val (.int (1 : Int32)), .val (.ref a268), .val (.int (3 : Int32)), .val (.ref a275), .val (.ref r286), .unset] []) _ _ _
        refine Go.aload X287 hx (hb hby at_180) rfl rfl ?_
        show Go _ _ _ _ T287 (mkF m 182 #[.val (.int p0), .val (.long p1), .second, .val (.int p2), .val (.int (1 : Int32)), .val (.int (1 : Int32)), .val (.int (1 : Int32)), .val (.ref a268), .val (.int (3 : Int32)), .val (.ref a275), .val (.ref r286), .unset] [(.ref r286)]) _ _ _
        refine Go.iconst X287 hx (hb hby at_182) ?_
        show Go _ _ _ _ T287 (mkF m 183 #[.val (.int p0), .val (.long p1), .second, .val (.int p2), .val (.int (1 : Int32)), .val (.int (1 : Int32)), .val (.int (1 : Int32)), .val (.ref a268), .val (.int (3 : Int32)), .val (.ref a275), .val (.ref r286), .unset] [(.int (0 : Int32)), (.ref r286)]) _ _ _
        refine Go.aload X287 hx (hb hby at_183) rfl rfl ?_
        show Go _ _ _ _ T287 (mkF m 185 #[.val (.int p0), .val (.long p1), .second, .val (.int p2), .val (.int (1 : Int32)), .val (.int (1 : Int32)), .val (.int (1 : Int32)), .val (.ref a268), .val (.int (3 : Int32)), .val (.ref a275), .val (.ref r286), .unset] [(.ref r286), (.int (0 : Int32)), (.ref r286)]) _ _ _
        refine Go.iconst X287 hx (hb hby at_185) ?_
        show Go _ _ _ _ T287 (mkF m 186 #[.val (.int p0), .val (.long p1), .second, .val (.int p2), .val (.int (1 : Int32)), .val (.int (1 : Int32)), .val (.int (1 : Int32)), .val (.ref a268), .val (.int (3 : Int32)), .val (.ref a275), .val (.ref r286), .unset] [(.int (0 : Int32)), (.ref r286), (.int (0 : Int32)), (.ref r286)]) _ _ _
        refine Go.baloadB X287 hx hZ e287 P286_2 (by decide) (by decide) (hb hby at_186) ?_
        show Go _ _ _ _ T287 (mkF m 187 #[.val (.int p0), .val (.long p1), .second, .val (.int p2), .val (.int (1 : Int32)), .val (.int (1 : Int32)), .val (.int (1 : Int32)), .val (.ref a268), .val (.int (3 : Int32)), .val (.ref a275), .val (.ref r286), .unset] [(.int ((fun i => (put4 (put4 (put4 (put4 (put4 (put4 (fun _ => (0 : Int32)) 4 ((XT.ushrL (p1 ^^^ (-1 : Int64)) (32 : Int32)).toInt32)) 8 (((p1 ^^^ (-1 : Int64))).toInt32)) 12 (p0 ^^^ (-1 : Int32))) 4 p0) 8 ((XT.ushrL p1 (32 : Int32)).toInt32)) 12 ((p1).toInt32)) (i + 4)) 0)), (.int (0 : Int32)), (.ref r286)]) _ _ _
        refine Go.iconst X287 hx (hb hby at_187) ?_
        show Go _ _ _ _ T287 (mkF m 188 #[.val (.int p0), .val (.long p1), .second, .val (.int p2), .val (.int (1 : Int32)), .val (.int (1 : Int32)), .val (.int (1 : Int32)), .val (.ref a268), .val (.int (3 : Int32)), .val (.ref a275), .val (.ref r286), .unset] [(.int (1 : Int32)), (.int ((fun i => (put4 (put4 (put4 (put4 (put4 (put4 (fun _ => (0 : Int32)) 4 ((XT.ushrL (p1 ^^^ (-1 : Int64)) (32 : Int32)).toInt32)) 8 (((p1 ^^^ (-1 : Int64))).toInt32)) 12 (p0 ^^^ (-1 : Int32))) 4 p0) 8 ((XT.ushrL p1 (32 : Int32)).toInt32)) 12 ((p1).toInt32)) (i + 4)) 0)), (.int (0 : Int32)), (.ref r286)]) _ _ _
        refine Go.ixor X287 hx (hb hby at_188) ?_
        show Go _ _ _ _ T287 (mkF m 189 #[.val (.int p0), .val (.long p1), .second, .val (.int p2), .val (.int (1 : Int32)), .val (.int (1 : Int32)), .val (.int (1 : Int32)), .val (.ref a268), .val (.int (3 : Int32)), .val (.ref a275), .val (.ref r286), .unset] [(.int (((fun i => (put4 (put4 (put4 (put4 (put4 (put4 (fun _ => (0 : Int32)) 4 ((XT.ushrL (p1 ^^^ (-1 : Int64)) (32 : Int32)).toInt32)) 8 (((p1 ^^^ (-1 : Int64))).toInt32)) 12 (p0 ^^^ (-1 : Int32))) 4 p0) 8 ((XT.ushrL p1 (32 : Int32)).toInt32)) 12 ((p1).toInt32)) (i + 4)) 0) ^^^ (1 : Int32))), (.int (0 : Int32)), (.ref r286)]) _ _ _
        refine Go.i2b X287 hx (hb hby at_189) ?_
        show Go _ _ _ _ T287 (mkF m 190 #[.val (.int p0), .val (.long p1), .second, .val (.int p2), .val (.int (1 : Int32)), .val (.int (1 : Int32)), .val (.int (1 : Int32)), .val (.ref a268), .val (.int (3 : Int32)), .val (.ref a275), .val (.ref r286), .unset] [(.int (((((fun i => (put4 (put4 (put4 (put4 (put4 (put4 (fun _ => (0 : Int32)) 4 ((XT.ushrL (p1 ^^^ (-1 : Int64)) (32 : Int32)).toInt32)) 8 (((p1 ^^^ (-1 : Int64))).toInt32)) 12 (p0 ^^^ (-1 : Int32))) 4 p0) 8 ((XT.ushrL p1 (32 : Int32)).toInt32)) 12 ((p1).toInt32)) (i + 4)) 0) ^^^ (1 : Int32))).toInt8.toInt32)), (.int (0 : Int32)), (.ref r286)]) _ _ _
        refine Go.bastoreB X287 hx hZ e287 P286_2 (by decide) (by decide) (hb hby at_190) ?_
        intro T288 h288 X288 e288 W288 A288
        have N288 := Fr.snoc X288 N287 P286_0
        have Z288 : n0 ≤ h288.size := by rw [Wr.size W288]; exact Z286
        have B288 : h0.size ≤ h288.size := by rw [Wr.size W288]; exact B286
        have A289 : Af Z h288 r286 kr286 .byte 12 (fun i => Value.int ((updI (fun i => (put4 (put4 (put4 (put4 (put4 (put4 (fun _ => (0 : Int32)) 4 ((XT.ushrL (p1 ^^^ (-1 : Int64)) (32 : Int32)).toInt32)) 8 (((p1 ^^^ (-1 : Int64))).toInt32)) 12 (p0 ^^^ (-1 : Int32))) 4 p0) 8 ((XT.ushrL p1 (32 : Int32)).toInt32)) 12 ((p1).toInt32)) (i + 4)) 0 (((((((fun i => (put4 (put4 (put4 (put4 (put4 (put4 (fun _ => (0 : Int32)) 4 ((XT.ushrL (p1 ^^^ (-1 : Int64)) (32 : Int32)).toInt32)) 8 (((p1 ^^^ (-1 : Int64))).toInt32)) 12 (p0 ^^^ (-1 : Int32))) 4 p0) 8 ((XT.ushrL p1 (32 : Int32)).toInt32)) 12 ((p1).toInt32)) (i + 4)) 0) ^^^ (1 : Int32))).toInt8.toInt32)).toInt8.toInt32)) i)) := Af.updI A288
        show Go _ _ _ _ T288 (mkF m 191 #[.val (.int p0), .val (.long p1), .second, .val (.int p2), .val (.int (1 : Int32)), .val (.int (1 : Int32)), .val (.int (1 : Int32)), .val (.ref a268), .val (.int (3 : Int32)), .val (.ref a275), .val (.ref r286), .unset] []) _ _ _
        refine Go.aload X288 hx (hb hby at_191) rfl rfl ?_
        show Go _ _ _ _ T288 (mkF m 193 #[.val (.int p0), .val (.long p1), .second, .val (.int p2), .val (.int (1 : Int32)), .val (.int (1 : Int32)), .val (.int (1 : Int32)), .val (.ref a268), .val (.int (3 : Int32)), .val (.ref a275), .val (.ref r286), .unset] [(.ref a275)]) _ _ _
        have F290 := (Af.other W288 (Af.keep F285 K286 nin0) ne_a268_r286)
        have F291 := (Af.other W288 (Af.keep P284_3 K286 nin0) ne_ab278_r286)
        have F292 := (Fld.other W288 (Fld.keep P284_1 K286 nin0) (Or.inl ne_a275_r286))
        have F293 := (Fld.other W288 (Fld.keep P284_2 K286 nin0) (Or.inl ne_a275_r286))
        refine Go.callV (W := 0) (argsL := []) (rest := []) X288 hx hZ hown (w28 hw) (w29 hw) (w31 hw) (w30 hw) (w3 hw) (w32 hw) (notFace_of_selects (args := #[]) (mvT hZ (w31 hw))) (by decide) (Exa.wr W288 (Exa.keep P284_0 K286)) (rm_tb3 l Z a0 hw a275 ab278 kb278 (put4 (put4 (put4 (put4 (put4 (put4 (fun _ => (0 : Int32)) 4 ((XT.ushrL (p1 ^^^ (-1 : Int64)) (32 : Int32)).toInt32)) 8 (((p1 ^^^ (-1 : Int64))).toInt32)) 12 (p0 ^^^ (-1 : Int32))) 4 p0) 8 ((XT.ushrL p1 (32 : Int32)).toInt32)) 12 ((p1).toInt32)) h288 n0 Z288 (okB_put (okB_put (okB_put (okB_put (okB_put (okB_put okB0)))))) F292 F293 F291) e288 (lenOf pd_6 rfl) (hb hby at_193) (by rw [hml]; rfl) rfl (Nat.le_of_eq rfl) (by decide) (by decide) (by decide) (by decide) ?_
        intro v294 T294 L294 X294 q294
        obtain ⟨r294, kr294, rfl, M294, K294, P294_0, P294_1, P294_2⟩ := q294
        have N294 := Fr.app N288 M294
        have Z294 : n0 ≤ T294.heap.size := Nat.le_trans Z288 K294.1
        have B294 : h0.size ≤ T294.heap.size := Nat.le_trans B288 K294.1
        have ne_a268_r294 : a268 ≠ r294 := Nat.ne_of_lt (Nat.lt_of_lt_of_le (F290).lt P294_1)
        have ne_a275_r294 : a275 ≠ r294 := Nat.ne_of_lt (Nat.lt_of_lt_of_le ((Exa.wr W288 (Exa.keep P284_0 K286))).lt P294_1)
        have ne_ab278_r294 : ab278 ≠ r294 := Nat.ne_of_lt (Nat.lt_of_lt_of_le (F291).lt P294_1)
        have ne_r286_r294 : r286 ≠ r294 := Nat.ne_of_lt (Nat.lt_of_lt_of_le (A289).lt P294_1)
        show Go _ _ _ _ T294 (mkF m 196 #[.val (.int p0), .val (.long p1), .second, .val (.int p2), .val (.int (1 : Int32)), .val (.int (1 : Int32)), .val (.int (1 : Int32)), .val (.ref a268), .val (.int (3 : Int32)), .val (.ref a275), .val (.ref r286), .unset] [(.ref r294)]) _ _ _
        refine Go.astore X294 hx (hb hby at_196) rfl (l' := #[.val (.int p0), .val (.long p1), .second, .val (.int p2), .val (.int (1 : Int32)), .val (.int (1 : Int32)), .val (.int (1 : Int32)), .val (.ref a268), .val (.int (3 : Int32)), .val (.ref a275), .val (.ref r286), .val (.ref r294)]) rfl ?_
        show Go _ _ _ _ T294 (mkF m 198 #[.val (.int p0), .val (.long p1), .second, .val (.int p2), .val (.int (1 : Int32)), .val (.int (1 : Int32)), .val (.int (1 : Int32)), .val (.ref a268), .val (.int (3 : Int32)), .val (.ref a275), .val (.ref r286), .val (.ref r294)] []) _ _ _
        refine Go.aload X294 hx (hb hby at_198) rfl rfl ?_
        show Go _ _ _ _ T294 (mkF m 200 #[.val (.int p0), .val (.long p1), .second, .val (.int p2), .val (.int (1 : Int32)), .val (.int (1 : Int32)), .val (.int (1 : Int32)), .val (.ref a268), .val (.int (3 : Int32)), .val (.ref a275), .val (.ref r286), .val (.ref r294)] [(.ref r294)]) _ _ _
        refine Go.aload X294 hx (hb hby at_200) rfl rfl ?_
        show Go _ _ _ _ T294 (mkF m 202 #[.val (.int p0), .val (.long p1), .second, .val (.int p2), .val (.int (1 : Int32)), .val (.int (1 : Int32)), .val (.int (1 : Int32)), .val (.ref a268), .val (.int (3 : Int32)), .val (.ref a275), .val (.ref r286), .val (.ref r294)] [(.ref a268), (.ref r294)]) _ _ _
        refine Go.iload X294 hx (hb hby at_202) rfl ?_
        show Go _ _ _ _ T294 (mkF m 204 #[.val (.int p0), .val (.long p1), .second, .val (.int p2), .val (.int (1 : Int32)), .val (.int (1 : Int32)), .val (.int (1 : Int32)), .val (.ref a268), .val (.int (3 : Int32)), .val (.ref a275), .val (.ref r286), .val (.ref r294)] [(.int (3 : Int32)), (.ref a268), (.ref r294)]) _ _ _
        refine Go.callS (W := 0) (argsL := [(.ref r294), (.ref a268), (.int (3 : Int32))]) (rest := []) X294 hx hZ hown (w51 hw) (w52 hw) (w53 hw) (w54 hw) (by decide) (rm_ma3 l Z a0 hw r294 a268 kr294 (fun i => (put4 (put4 (put4 (put4 (put4 (put4 (fun _ => (0 : Int32)) 4 ((XT.ushrL (p1 ^^^ (-1 : Int64)) (32 : Int32)).toInt32)) 8 (((p1 ^^^ (-1 : Int64))).toInt32)) 12 (p0 ^^^ (-1 : Int32))) 4 p0) 8 ((XT.ushrL p1 (32 : Int32)).toInt32)) 12 ((p1).toInt32)) (i + 4)) k268 (updI (updI (updI (fun _ => (0 : Int32)) 0 p0) 1 (((p1 >>> (((32 : Int32)).toInt64 &&& 63))).toInt32)) 2 ((p1).toInt32)) T294.heap n0 Z294 P294_2 (Af.keep F290 K294 nin0) (unit_eq p0) ((unit_eq _).trans (hi_eq p1)) (unit_eq ((p1).toInt32))) rfl (lenOf pd_7 rfl) (hb hby at_204) (by rw [hml]; rfl) rfl (Nat.le_of_eq rfl) (by decide) (by decide) (by decide) (by decide) ?_
        intro v295 T295 L295 X295 q295
        obtain ⟨rfl, M295, e295⟩ := q295
        have N295 := Fr.app N294 M295
        show Go _ _ _ _ T295 (mkF m 207 #[.val (.int p0), .val (.long p1), .second, .val (.int p2), .val (.int (1 : Int32)), .val (.int (1 : Int32)), .val (.int (1 : Int32)), .val (.ref a268), .val (.int (3 : Int32)), .val (.ref a275), .val (.ref r286), .val (.ref r294)] [(.int (1 : Int32))]) _ _ _
        refine Go.retZ X295 hx hlk hret (by decide) (hb hby at_207) (by decide) (by decide) ?_
        rw [e295]
        exact ⟨rfl, N295⟩
set_option maxRecDepth 65536 in
set_option maxHeartbeats 40000000 in
theorem comes_1 {Post : Tables → Env → Array Value → State → Outcome → State → Prop} (hpost : ∀ tb e args s v u, (limb_1_1.after args s (.returned v) u = true ∧ limb_1_2.after args s (.returned v) u = true ∧ True) → FrameEnd s (.returned v) u (Jvm.fieldLocs frame_1_writes args s ++ Jvm.arrayLocs frame_1_arrays args s ++ Jvm.staticLocs frame_1_statics s) 24 640 → Post tb e args s (.returned v) u) :
    ArmFor flags0 classFile x code maxLocals ret World_1 tables_1 room_1 Calls_1 rest_1 Pre_1 Post := by
  intro l hfl _ _ p e ha hc hk s m args below hf hA hF happ hP
  obtain ⟨hcalls, hrest, hpre⟩ := hP
  obtain ⟨-, -, -, hnamed, -, -, -, hat⟩ := (Spec.applies_iff hf).mp happ
  obtain ⟨hg, hn⟩ := and_e (Cond.before_iff.mp (show (Jvm.Cond.and given_1 narrow_1).before args s = true from hpre))
  obtain ⟨hcount, hgs⟩ := and_e hg
  obtain ⟨hg0, hgr0⟩ := and_e hgs
  obtain ⟨hg1, hgr1⟩ := and_e hgr0
  obtain ⟨w0', w1', w2', rfl⟩ : ∃ w0' w1' w2' : Value, args = #[w0', w1', w2'] := by
    have hs : args.size = 3 := by simpa [Cond.value, given_1] using hcount
    obtain ⟨L⟩ := args
    match L, hs with
    | [w0', w1', w2'], _ => exact ⟨w0', w1', w2', rfl⟩
  have hw := fun d (hd : d ∈ tables_1) => atoms_spec (ws := Jvm.Cond.code x code maxLocals ret :: tables_1) hat d (List.mem_cons_of_mem _ hd)
  have hfit : Fit s := fun {y c} hc i hi => by
    obtain ⟨ha, rfl⟩ := Array.getElem?_eq_some_iff.mp hc
    have q := List.all_eq_true.mp ((Array.all_eq_true_iff_forall_mem.mp hF) _ (Array.getElem_mem ha)) i (List.mem_range.mpr hi)
    simpa [Array.getElem?_eq_getElem hi] using q
  obtain ⟨i0, ei0⟩ := is_v hg0
  obtain rfl : w0' = (.int i0) := Option.some.inj ei0
  obtain ⟨i1, ei1⟩ := isL_v hg1
  obtain rfl : w1' = (.long i1) := Option.some.inj ei1
  obtain ⟨i2, ei2⟩ := is_v hgr1
  obtain rfl : w2' = (.int i2) := Option.some.inj ei2
  obtain ⟨n, o, h1, h2, h3, _, L, rfl, ⟨rfl, N⟩, hq⟩ := rm_law l s _ hw tables_1 i0 i1 i2 s.heap s.heap.size (Nat.le_refl _) p e ha hc hk s m _ below hf ((Spec.applies_iff_loose hf).mp happ).1 ⟨rfl, State.Warmed39.refl s, rfl⟩ trivial
  refine ⟨n, _, h1, h2, h3, hpost _ _ _ _ _ _ ⟨Cond.after_iff.mpr rfl, Cond.after_iff.mpr (eq_i res_at (Term.int_eval (1)) rfl), trivial⟩ ⟨hq.1, hq.2.1, (hq.2.2.sift fun y hy => Or.inr (N y hy)).mono (by decide) (by decide)⟩⟩
theorem main_1_1 : Claimed_1_1 := comes_1 fun _ _ _ _ _ _ h hF => ⟨h.1, hF⟩
theorem main_1_2 : Claimed_1_2 := comes_1 fun _ _ _ _ _ _ h hF => ⟨h.2.1, hF⟩
end Jvm.Pilot.@@N@@
namespace Jvm.Pilot.@@N@@
open Jvm Jvm.ClassFile Sem Op Lib Jvm.Free Jvm.Stand Jvm.Pilot.@@N@@.Jvm.D
/-! MADE BY PROGRAM (witnessworld.py) out of the Statement's table words and the real class files: 12 classes; the members and pool entries that the words name. The judged class is class 1, her method 1. -/
namespace start1
open Jvm.ClassFile
def u (s : String) : CpInfo := .utf8 (stringToUtf16 s)
/-- a pool by its gaps: so many unusable entries, then the entry; so many at the end -/
def gap : Nat → List CpInfo → List CpInfo
  | 0, r => r
  | n + 1, r => .unusable :: gap n r
def poolList (es : List (Nat × CpInfo)) (last : Nat) : List CpInfo := es.foldr (fun e r => gap e.1 (e.2 :: r)) (gap last [])
def pool (es : List (Nat × CpInfo)) (last : Nat) : Array CpInfo := ⟨poolList es last⟩
def fileOf (pool : Array CpInfo) (this : Nat) (attrs : Array Attribute := #[]) (ms : Array MethodInfo := #[]) (fl : Nat := 33) (sup : Nat := 0) (ifs : Array Nat := #[]) (fds : Array FieldInfo := #[]) : ClassFile where
  minorVersion := 0
  majorVersion := 65
  constantPool := pool
  accessFlags := fl
  thisClass := this
  superClass := sup
  interfaces := ifs
  fields := fds
  methods := ms
  attributes := attrs
def plain (name : String) (sup : Option ClassId) : Class where
  name := name
  kind := .ordinary
  loader := none
  accessFlags := 33
  super := sup
  interfaces := #[]
  cf := none
  fields := #[]
  methods := #[]
  instanceTypes := #[]
  staticTypes := #[]
  resolved := #[]
  callSites := []
  init := .initialized
  statics := none
  mirror := none

def pool0 : Array CpInfo := pool [(5, u "<init>"), (0, u "()V"), (1, .class_ 10), (1, u "java/lang/Object")] 113

def k0c0 : Code := { maxStack := 0, maxLocals := 1, code := object_method_1_code, exceptionTable := #[], attributes := #[] }
def k0m0 : Method := { name := "<init>", desc := "()V", sig := { parameters := [], returnType := none }, accessFlags := 1, code := some k0c0 }
/-- java/lang/Object -/
def k0 : Class := { plain "java/lang/Object" none with
  accessFlags := 33
  interfaces := #[]
  cf := some (fileOf pool0 8 #[] #[{ accessFlags := 1, nameIndex := 5, descriptorIndex := 6, attributes := #[] }] 33 0 #[] #[])
  fields := #[]
  methods := #[k0m0]
  instanceTypes := #[]
  staticTypes := #[]
  resolved := Array.replicate 124 none
  statics := none }

def pool1 : Array CpInfo := pool [(2, .class_ 4), (0, .nameAndType 5 6), (0, u "java/lang/Object"), (0, u "<init>"), (0, u "()V"), (0, .class_ 8), (0, u "com/example/farcall/farcall/XdrWriter"), (0, .methodref 7 3), (0, .long 18446744073709551615), (1, .methodref 7 13), (0, .nameAndType 14 15), (0, u "writeLong"), (0, u "(J)V"), (0, .methodref 7 17), (0, .nameAndType 18 19), (0, u "writeInt"), (0, u "(I)V"), (0, .methodref 7 21), (0, .nameAndType 22 6), (0, u "reset"), (0, .methodref 7 24), (0, .nameAndType 25 26), (0, u "toByteArray"), (0, u "()[B"), (0, .methodref 28 29), (0, .class_ 30), (0, .nameAndType 31 32), (0, u "com/example/farcall/farcall/XdrWriterToByteArrayPinLaw"), (0, u "matches"), (0, u "([B[II)Z"), (0, .methodref 28 34), (0, .nameAndType 35 36), (0, u "unitAt"), (0, u "([BI)I"), (2, u "law"), (0, u "(IJI)Z")] 7

def k1m0 : Method := { name := "<init>", desc := "()V", sig := { parameters := [], returnType := none }, accessFlags := 1, code := none }
def k1c1 : Code := { maxStack := 5, maxLocals := 12, code := code, exceptionTable := #[], attributes := #[] }
def k1m1 : Method := { name := "law", desc := "(IJI)Z", sig := { parameters := [.int, .long, .int], returnType := some .boolean }, accessFlags := 9, code := some k1c1 }
def k1c2 : Code := { maxStack := 4, maxLocals := 3, code := method_3_code, exceptionTable := #[], attributes := #[] }
def k1m2 : Method := { name := "unitAt", desc := "([BI)I", sig := { parameters := [(.array .byte), .int], returnType := some .int }, accessFlags := 10, code := some k1c2 }
def k1c3 : Code := { maxStack := 3, maxLocals := 3, code := method_4_code, exceptionTable := #[], attributes := #[] }
def k1m3 : Method := { name := "matches", desc := "([B[II)Z", sig := { parameters := [(.array .byte), (.array .int), .int], returnType := some .boolean }, accessFlags := 10, code := some k1c3 }
/-- com/example/farcall/farcall/XdrWriterToByteArrayPinLaw -/
def k1 : Class := { plain "com/example/farcall/farcall/XdrWriterToByteArrayPinLaw" (some 0) with
  accessFlags := 49
  interfaces := #[]
  cf := some (fileOf pool1 28 #[] #[{ accessFlags := 1, nameIndex := 5, descriptorIndex := 6, attributes := #[] }, { accessFlags := 9, nameIndex := 39, descriptorIndex := 40, attributes := #[] }, { accessFlags := 10, nameIndex := 35, descriptorIndex := 36, attributes := #[] }, { accessFlags := 10, nameIndex := 31, descriptorIndex := 32, attributes := #[] }] 49 2 #[] #[])
  fields := #[]
  methods := #[k1m0, k1m1, k1m2, k1m3]
  instanceTypes := #[]
  staticTypes := #[]
  resolved := Array.replicate 48 none
  statics := none }

def pool2 : Array CpInfo := pool [(1, .methodref 2 3), (0, .class_ 4), (0, .nameAndType 5 6), (0, u "java/lang/Object"), (0, u "<init>"), (0, u "()V"), (0, .class_ 8), (0, u "com/example/farcall/farcall/XdrWriter"), (0, .fieldref 7 10), (0, .nameAndType 11 12), (0, u "bytes"), (0, u "[B"), (0, .fieldref 7 14), (0, .nameAndType 15 16), (0, u "end"), (0, u "I"), (0, .methodref 7 18), (0, .nameAndType 19 20), (0, u "ensureRoom"), (0, u "(I)V"), (0, .methodref 7 22), (0, .nameAndType 23 24), (0, u "putInt"), (0, u "(II)V"), (0, .methodref 7 26), (0, .nameAndType 27 20), (0, u "writeInt"), (14, u "writeLong"), (0, u "(J)V"), (22, .class_ 68), (1, u "java/util/Arrays"), (67, .methodref 66 137), (0, .nameAndType 138 139), (0, u "copyOfRange"), (0, u "([BII)[B"), (13, u "HEADROOM"), (2, u "INITIAL_CAPACITY"), (28, u "toByteArray"), (0, u "()[B"), (0, u "reset")] 25

def k2c0 : Code := { maxStack := 2, maxLocals := 1, code := prog_55_method_1_code, exceptionTable := #[], attributes := #[] }
def k2m0 : Method := { name := "<init>", desc := "()V", sig := { parameters := [], returnType := none }, accessFlags := 1, code := some k2c0 }
def k2c1 : Code := { maxStack := 3, maxLocals := 2, code := prog_55_method_2_code, exceptionTable := #[], attributes := #[] }
def k2m1 : Method := { name := "writeInt", desc := "(I)V", sig := { parameters := [.int], returnType := none }, accessFlags := 1, code := some k2c1 }
def k2c2 : Code := { maxStack := 4, maxLocals := 3, code := prog_55_method_3_code, exceptionTable := #[], attributes := #[] }
def k2m2 : Method := { name := "writeLong", desc := "(J)V", sig := { parameters := [.long], returnType := none }, accessFlags := 1, code := some k2c2 }
def k2c3 : Code := { maxStack := 3, maxLocals := 1, code := prog_55_method_19_code, exceptionTable := #[], attributes := #[] }
def k2m3 : Method := { name := "toByteArray", desc := "()[B", sig := { parameters := [], returnType := some (.array .byte) }, accessFlags := 1, code := some k2c3 }
def k2c4 : Code := { maxStack := 2, maxLocals := 1, code := prog_55_method_20_code, exceptionTable := #[], attributes := #[] }
def k2m4 : Method := { name := "reset", desc := "()V", sig := { parameters := [], returnType := none }, accessFlags := 0, code := some k2c4 }
def k2c5 : Code := { maxStack := 4, maxLocals := 3, code := prog_55_method_21_code, exceptionTable := #[], attributes := #[] }
def k2m5 : Method := { name := "putInt", desc := "(II)V", sig := { parameters := [.int, .int], returnType := none }, accessFlags := 2, code := some k2c5 }
def k2c6 : Code := { maxStack := 5, maxLocals := 3, code := prog_55_method_22_code, exceptionTable := #[], attributes := #[] }
def k2m6 : Method := { name := "ensureRoom", desc := "(I)V", sig := { parameters := [.int], returnType := none }, accessFlags := 2, code := some k2c6 }
/-- com/example/farcall/farcall/XdrWriter -/
def k2 : Class := { plain "com/example/farcall/farcall/XdrWriter" (some 0) with
  accessFlags := 49
  interfaces := #[]
  cf := some (fileOf pool2 7 #[] #[{ accessFlags := 1, nameIndex := 5, descriptorIndex := 6, attributes := #[] }, { accessFlags := 1, nameIndex := 27, descriptorIndex := 20, attributes := #[] }, { accessFlags := 1, nameIndex := 42, descriptorIndex := 43, attributes := #[] }, { accessFlags := 1, nameIndex := 185, descriptorIndex := 186, attributes := #[] }, { accessFlags := 0, nameIndex := 187, descriptorIndex := 6, attributes := #[] }, { accessFlags := 2, nameIndex := 23, descriptorIndex := 24, attributes := #[] }, { accessFlags := 2, nameIndex := 19, descriptorIndex := 20, attributes := #[] }] 49 2 #[] #[{ accessFlags := 26, nameIndex := 153, descriptorIndex := 16, attributes := #[] }, { accessFlags := 26, nameIndex := 156, descriptorIndex := 16, attributes := #[] }, { accessFlags := 2, nameIndex := 11, descriptorIndex := 12, attributes := #[] }, { accessFlags := 2, nameIndex := 15, descriptorIndex := 16, attributes := #[] }])
  fields := #[{ name := "HEADROOM", type := .int, accessFlags := 26, slot := 0, constantValue := 0 }, { name := "INITIAL_CAPACITY", type := .int, accessFlags := 26, slot := 1, constantValue := 0 }, { name := "bytes", type := (.array .byte), accessFlags := 2, slot := 0, constantValue := 0 }, { name := "end", type := .int, accessFlags := 2, slot := 1, constantValue := 0 }]
  methods := #[k2m0, k2m1, k2m2, k2m3, k2m4, k2m5, k2m6]
  instanceTypes := #[(.array .byte), .int]
  staticTypes := #[.int, .int]
  resolved := Array.replicate 213 none
  statics := none }

def pool3 : Array CpInfo := pool [(2, .class_ 4), (1, u "java/lang/Object"), (0, u "<init>"), (0, u "()V"), (7, .class_ 16), (1, u "java/util/Arrays"), (57, .class_ 76), (1, u "java/util/Arrays$NaturalOrder"), (36, .class_ 115), (1, u "java/util/Arrays$LegacyMergeSort"), (1, u "Z"), (21, u "copyOfRange"), (10, .methodref 151 152), (0, .class_ 153), (0, .nameAndType 154 155), (0, u "java/lang/System"), (0, u "arraycopy"), (0, u "(Ljava/lang/Object;ILjava/lang/Object;II)V"), (148, .methodref 305 306), (0, .class_ 307), (0, .nameAndType 308 309), (0, u "java/lang/Math"), (0, u "min"), (0, u "(II)I"), (29, .methodref 14 340), (0, .nameAndType 341 342), (0, u "copyOfRangeByte"), (0, u "([BII)[B"), (0, .methodref 14 344), (0, .nameAndType 345 346), (0, u "checkLength"), (0, u "(II)V"), (28, .class_ 376), (0, u "java/util/Arrays$ArrayList"), (68, u "$assertionsDisabled"), (269, u "MIN_ARRAY_SORT_GRAN"), (0, u "I"), (2, u "INSERTIONSORT_THRESHOLD"), (255, .class_ 976), (0, u "java/util/Arrays$ArrayItr")] 52

def k3m0 : Method := { name := "<init>", desc := "()V", sig := { parameters := [], returnType := none }, accessFlags := 2, code := none }
def k3c1 : Code := { maxStack := 4, maxLocals := 2, code := jdk_65_method_131_code, exceptionTable := #[], attributes := #[] }
def k3m1 : Method := { name := "checkLength", desc := "(II)V", sig := { parameters := [.int, .int], returnType := none }, accessFlags := 10, code := some k3c1 }
def k3c2 : Code := { maxStack := 3, maxLocals := 3, code := jdk_65_method_132_code, exceptionTable := #[], attributes := #[] }
def k3m2 : Method := { name := "copyOfRange", desc := "([BII)[B", sig := { parameters := [(.array .byte), .int, .int], returnType := some (.array .byte) }, accessFlags := 9, code := some k3c2 }
def k3c3 : Code := { maxStack := 6, maxLocals := 5, code := jdk_65_method_133_code, exceptionTable := #[], attributes := #[] }
def k3m3 : Method := { name := "copyOfRangeByte", desc := "([BII)[B", sig := { parameters := [(.array .byte), .int, .int], returnType := some (.array .byte) }, accessFlags := 10, code := some k3c3 }
/-- java/util/Arrays -/
def k3 : Class := { plain "java/util/Arrays" (some 0) with
  accessFlags := 49
  interfaces := #[]
  cf := some (fileOf pool3 14 #[.nestMembers #[975, 375, 113, 74]] #[{ accessFlags := 2, nameIndex := 5, descriptorIndex := 6, attributes := #[] }, { accessFlags := 10, nameIndex := 345, descriptorIndex := 346, attributes := #[] }, { accessFlags := 9, nameIndex := 139, descriptorIndex := 342, attributes := #[] }, { accessFlags := 10, nameIndex := 341, descriptorIndex := 342, attributes := #[] }] 49 2 #[] #[{ accessFlags := 26, nameIndex := 715, descriptorIndex := 716, attributes := #[] }, { accessFlags := 26, nameIndex := 719, descriptorIndex := 716, attributes := #[] }, { accessFlags := 4120, nameIndex := 445, descriptorIndex := 117, attributes := #[] }])
  fields := #[{ name := "MIN_ARRAY_SORT_GRAN", type := .int, accessFlags := 26, slot := 0, constantValue := 0 }, { name := "INSERTIONSORT_THRESHOLD", type := .int, accessFlags := 26, slot := 1, constantValue := 0 }, { name := "$assertionsDisabled", type := .boolean, accessFlags := 4120, slot := 2, constantValue := 0 }]
  methods := #[k3m0, k3m1, k3m2, k3m3]
  instanceTypes := #[]
  staticTypes := #[.int, .int, .boolean]
  resolved := Array.replicate 1029 none
  statics := none }

def pool4 : Array CpInfo := pool [(1, .class_ 2), (0, u "java/lang/Math"), (1, .class_ 6), (1, u "java/lang/Object"), (0, u "<init>"), (0, u "()V"), (89, .class_ 100), (1, u "java/lang/Math$RandomNumberGeneratorHolder"), (71, u "negativeZeroFloatBits"), (0, u "J"), (2, u "negativeZeroDoubleBits"), (24, u "min"), (43, u "$assertionsDisabled"), (0, u "Z"), (88, u "(II)I"), (2, u "twoToTheDoubleScaleDown"), (0, u "D"), (4, u "twoToTheDoubleScaleUp"), (9, u "E"), (3, u "PI"), (2, u "TAU"), (2, u "DEGREES_TO_RADIANS"), (0, u "RADIANS_TO_DEGREES")] 94

def k4m0 : Method := { name := "<init>", desc := "()V", sig := { parameters := [], returnType := none }, accessFlags := 2, code := none }
def k4c1 : Code := { maxStack := 2, maxLocals := 2, code := jdk_29_method_69_code, exceptionTable := #[], attributes := #[] }
def k4m1 : Method := { name := "min", desc := "(II)I", sig := { parameters := [.int, .int], returnType := some .int }, accessFlags := 9, code := some k4c1 }
/-- java/lang/Math -/
def k4 : Class := { plain "java/lang/Math" (some 0) with
  accessFlags := 49
  interfaces := #[]
  cf := some (fileOf pool4 1 #[.nestMembers #[98]] #[{ accessFlags := 2, nameIndex := 7, descriptorIndex := 8, attributes := #[] }, { accessFlags := 9, nameIndex := 201, descriptorIndex := 335, attributes := #[] }] 49 4 #[] #[{ accessFlags := 25, nameIndex := 354, descriptorIndex := 339, attributes := #[] }, { accessFlags := 25, nameIndex := 358, descriptorIndex := 339, attributes := #[] }, { accessFlags := 25, nameIndex := 361, descriptorIndex := 339, attributes := #[] }, { accessFlags := 26, nameIndex := 364, descriptorIndex := 339, attributes := #[] }, { accessFlags := 26, nameIndex := 365, descriptorIndex := 339, attributes := #[] }, { accessFlags := 26, nameIndex := 172, descriptorIndex := 173, attributes := #[] }, { accessFlags := 26, nameIndex := 176, descriptorIndex := 173, attributes := #[] }, { accessFlags := 8, nameIndex := 344, descriptorIndex := 339, attributes := #[] }, { accessFlags := 8, nameIndex := 338, descriptorIndex := 339, attributes := #[] }, { accessFlags := 4120, nameIndex := 245, descriptorIndex := 246, attributes := #[] }])
  fields := #[{ name := "E", type := .double, accessFlags := 25, slot := 0, constantValue := 0 }, { name := "PI", type := .double, accessFlags := 25, slot := 1, constantValue := 0 }, { name := "TAU", type := .double, accessFlags := 25, slot := 2, constantValue := 0 }, { name := "DEGREES_TO_RADIANS", type := .double, accessFlags := 26, slot := 3, constantValue := 0 }, { name := "RADIANS_TO_DEGREES", type := .double, accessFlags := 26, slot := 4, constantValue := 0 }, { name := "negativeZeroFloatBits", type := .long, accessFlags := 26, slot := 5, constantValue := 0 }, { name := "negativeZeroDoubleBits", type := .long, accessFlags := 26, slot := 6, constantValue := 0 }, { name := "twoToTheDoubleScaleUp", type := .double, accessFlags := 8, slot := 7, constantValue := 0 }, { name := "twoToTheDoubleScaleDown", type := .double, accessFlags := 8, slot := 8, constantValue := 0 }, { name := "$assertionsDisabled", type := .boolean, accessFlags := 4120, slot := 9, constantValue := 0 }]
  methods := #[k4m0, k4m1]
  instanceTypes := #[]
  staticTypes := #[.double, .double, .double, .double, .double, .long, .long, .double, .double, .boolean]
  resolved := Array.replicate 460 none
  statics := none }

def pool5 : Array CpInfo := pool [(2, .class_ 4), (1, u "java/lang/Object"), (0, u "<init>"), (0, u "()V"), (1, .class_ 10), (1, u "java/lang/System"), (0, u "allowSecurityManager"), (0, u "I"), (16, u "cons"), (0, u "Ljava/io/Console;"), (77, .class_ 110), (1, u "java/lang/System$CallersHolder"), (43, u "initialErrStream"), (0, u "Ljava/io/PrintStream;"), (19, u "security"), (0, u "Ljava/lang/SecurityManager;"), (31, .class_ 209), (0, u "java/lang/System$1"), (7, u "props"), (0, u "Ljava/util/Properties;"), (2, u "lineSeparator"), (0, u "Ljava/lang/String;"), (96, .class_ 321), (1, u "java/lang/System$LoggerFinder"), (5, .class_ 328), (0, u "java/lang/System$Logger"), (67, u "err"), (2, u "out"), (91, u "notSupportedJnuEncoding"), (15, u "in"), (17, u "initialIn"), (0, u "Ljava/io/InputStream;"), (35, u "bootLayer"), (0, u "Ljava/lang/ModuleLayer;"), (99, .class_ 664), (0, u "java/lang/System$2"), (9, u "NEVER"), (2, u "MAYBE"), (49, u "arraycopy"), (0, u "(Ljava/lang/Object;ILjava/lang/Object;II)V"), (72, .class_ 802), (0, u "java/lang/System$Logger$Level")] 31

def k5m0 : Method := { name := "<init>", desc := "()V", sig := { parameters := [], returnType := none }, accessFlags := 2, code := none }
def k5m1 : Method := { name := "arraycopy", desc := "(Ljava/lang/Object;ILjava/lang/Object;II)V", sig := { parameters := [(.object "java/lang/Object"), .int, (.object "java/lang/Object"), .int, .int], returnType := none }, accessFlags := 265, code := none }
/-- java/lang/System -/
def k5 : Class := { plain "java/lang/System" (some 0) with
  accessFlags := 49
  interfaces := #[]
  cf := some (fileOf pool5 8 #[.nestMembers #[319, 327, 801, 108, 663, 208]] #[{ accessFlags := 2, nameIndex := 5, descriptorIndex := 6, attributes := #[] }, { accessFlags := 265, nameIndex := 727, descriptorIndex := 728, attributes := #[] }] 49 2 #[] #[{ accessFlags := 25, nameIndex := 507, descriptorIndex := 526, attributes := #[] }, { accessFlags := 25, nameIndex := 399, descriptorIndex := 155, attributes := #[] }, { accessFlags := 25, nameIndex := 396, descriptorIndex := 155, attributes := #[] }, { accessFlags := 10, nameIndex := 525, descriptorIndex := 526, attributes := #[] }, { accessFlags := 26, nameIndex := 674, descriptorIndex := 12, attributes := #[] }, { accessFlags := 26, nameIndex := 677, descriptorIndex := 12, attributes := #[] }, { accessFlags := 10, nameIndex := 11, descriptorIndex := 12, attributes := #[] }, { accessFlags := 74, nameIndex := 175, descriptorIndex := 176, attributes := #[] }, { accessFlags := 10, nameIndex := 491, descriptorIndex := 222, attributes := #[] }, { accessFlags := 74, nameIndex := 29, descriptorIndex := 30, attributes := #[] }, { accessFlags := 74, nameIndex := 154, descriptorIndex := 155, attributes := #[] }, { accessFlags := 10, nameIndex := 217, descriptorIndex := 218, attributes := #[] }, { accessFlags := 10, nameIndex := 221, descriptorIndex := 222, attributes := #[] }, { accessFlags := 8, nameIndex := 562, descriptorIndex := 563, attributes := #[] }])
  fields := #[{ name := "in", type := (.object "java/io/InputStream"), accessFlags := 25, slot := 0, constantValue := 0 }, { name := "out", type := (.object "java/io/PrintStream"), accessFlags := 25, slot := 1, constantValue := 0 }, { name := "err", type := (.object "java/io/PrintStream"), accessFlags := 25, slot := 2, constantValue := 0 }, { name := "initialIn", type := (.object "java/io/InputStream"), accessFlags := 10, slot := 3, constantValue := 0 }, { name := "NEVER", type := .int, accessFlags := 26, slot := 4, constantValue := 0 }, { name := "MAYBE", type := .int, accessFlags := 26, slot := 5, constantValue := 0 }, { name := "allowSecurityManager", type := .int, accessFlags := 10, slot := 6, constantValue := 0 }, { name := "security", type := (.object "java/lang/SecurityManager"), accessFlags := 74, slot := 7, constantValue := 0 }, { name := "notSupportedJnuEncoding", type := (.object "java/lang/String"), accessFlags := 10, slot := 8, constantValue := 0 }, { name := "cons", type := (.object "java/io/Console"), accessFlags := 74, slot := 9, constantValue := 0 }, { name := "initialErrStream", type := (.object "java/io/PrintStream"), accessFlags := 74, slot := 10, constantValue := 0 }, { name := "props", type := (.object "java/util/Properties"), accessFlags := 10, slot := 11, constantValue := 0 }, { name := "lineSeparator", type := (.object "java/lang/String"), accessFlags := 10, slot := 12, constantValue := 0 }, { name := "bootLayer", type := (.object "java/lang/ModuleLayer"), accessFlags := 8, slot := 13, constantValue := 0 }]
  methods := #[k5m0, k5m1]
  instanceTypes := #[]
  staticTypes := #[(.object "java/io/InputStream"), (.object "java/io/PrintStream"), (.object "java/io/PrintStream"), (.object "java/io/InputStream"), .int, .int, .int, (.object "java/lang/SecurityManager"), (.object "java/lang/String"), (.object "java/io/Console"), (.object "java/io/PrintStream"), (.object "java/util/Properties"), (.object "java/lang/String"), (.object "java/lang/ModuleLayer")]
  resolved := Array.replicate 834 none
  statics := none }

def pool6 : Array CpInfo := pool [(1, u "java/lang/Cloneable"), (0, .class_ 1), (0, u "java/lang/Object"), (0, .class_ 3)] 3

/-- java/lang/Cloneable -/
def k6 : Class := { plain "java/lang/Cloneable" (some 0) with
  accessFlags := 1537
  interfaces := #[]
  cf := some (fileOf pool6 2 #[] #[] 1537 4 #[] #[])
  fields := #[]
  methods := #[]
  instanceTypes := #[]
  staticTypes := #[]
  resolved := Array.replicate 8 none
  statics := none }

def pool7 : Array CpInfo := pool [(1, u "java/io/Serializable"), (0, .class_ 1), (0, u "java/lang/Object"), (0, .class_ 3)] 3

/-- java/io/Serializable -/
def k7 : Class := { plain "java/io/Serializable" (some 0) with
  accessFlags := 1537
  interfaces := #[]
  cf := some (fileOf pool7 2 #[] #[] 1537 4 #[] #[])
  fields := #[]
  methods := #[]
  instanceTypes := #[]
  staticTypes := #[]
  resolved := Array.replicate 8 none
  statics := none }

/-- the primitive byte -/
def k8 : Class := { plain "byte" none with kind := .primitive 'B', accessFlags := 0x411 }
/-- [B -/
def k9 : Class := { plain "[B" (some 0) with kind := .array 8 .byte, interfaces := #[6, 7], accessFlags := 1041 }

/-- the primitive int -/
def k10 : Class := { plain "int" none with kind := .primitive 'I', accessFlags := 0x411 }
/-- [I -/
def k11 : Class := { plain "[I" (some 0) with kind := .array 10 .int, interfaces := #[6, 7], accessFlags := 1041 }

def heap : Heap := #[]
def classes : Array Class := #[k0, k1, k2, k3, k4, k5, k6, k7, k8, k9, k10, k11]
def interned : List (Array UInt16 × Addr) := []
def slotsUsed : Nat := 0
def theMethod : MethodId := ⟨1, 1⟩
def args0 : Array Value := #[.int 1, .long 2, .int 3]
def aboutOver (below : List Frame) : State where
  vm := { classes := classes, interned := interned.toArray }
  heap := heap
  slotsUsed := slotsUsed
  threads := #[{ frames := .invoking theMethod args0 :: below }]
def below0 : List Frame := [.native { method := ⟨0, 0⟩, args := #[] }]
def about1 : State := aboutOver below0
def p0 : Program := .bare "" "" ""
def e0 : Env := launch0.env 0 0 0
theorem w_frames : about1.frames = Frame.invoking theMethod args0 :: below0 := rfl
set_option maxRecDepth 65536 in
theorem w_args : argsFit about1.vm theMethod args0 = true := by decide +kernel
set_option maxRecDepth 65536 in
theorem w_heap : heapFits about1 = true := by decide +kernel
set_option maxRecDepth 65536 in
theorem w_runnable : about1.curStatus? = some .runnable := by decide +kernel
set_option maxRecDepth 65536 in
theorem w_alone : about1.alone = true := by decide +kernel
set_option maxRecDepth 65536 in
theorem w_named : about1.methodNamed? x = some theMethod := by decide +kernel
set_option maxRecDepth 65536 in
theorem w_hears : about1.hears theMethod below0 = true := by decide +kernel
set_option maxRecDepth 65536 in
theorem w_ripe : about1.ripe theMethod args0 below0 = true := by decide +kernel
theorem w_running : about1.status = .running := rfl
set_option maxRecDepth 65536 in
theorem w_room : about1.hasRoom e0.platform room_1 = true :=
  launch0.hasRoom_least _ room_1 (by decide +kernel) (by decide +kernel) (by decide +kernel) (by decide +kernel) (by decide +kernel) (by decide +kernel)
theorem allAtoms_all (ts : List Jvm.Cond) (a : Array Jvm.Value) (st : Jvm.State) : (allAtoms ts).before a st = ts.all (fun c => c.before a st) := by
  induction ts with
  | nil => rfl
  | cons c t ih =>
    show (Jvm.Cond.and c (allAtoms t)).before a st = _
    rw [Jvm.Cond.before_and, ih, List.all_cons]
def words1 : List Jvm.Cond := Jvm.Cond.code x code maxLocals ret :: tables_1
/-- a 'code' word, met by the world's own term for the bytes: nothing is compared byte by byte -/
theorem code_word {y : MethodName} {bytes : ByteArray} {mx : Nat} {rt : Option FieldType} {a : Array Value} {s : State} {m : MethodId} {meth : Method} {c : Code} (h1 : s.methodNamed? y = some m) (h2 : s.vm.method? m = some meth) (h3 : meth.code = some c) (h4 : c.code = bytes)
    (h5 : (c.maxLocals == mx && c.exceptionTable.isEmpty && decide (c.maxStack ≤ mostOperands) && decide (meth.sig.returnType = rt) && !meth.locks && decide (parseMethodDescriptor y.desc = some meth.sig)) = true) : (Jvm.Cond.code y bytes mx rt).before a s = true := by
  simp only [Bool.and_eq_true, beq_iff_eq, Bool.not_eq_true', decide_eq_true_eq] at h5
  obtain ⟨⟨⟨⟨⟨g1, g2⟩, g3⟩, g4⟩, g5⟩, g6⟩ := h5
  simp [Cond.before, Cond.holds, Cond.value, h1, h2, h3, h4, g1, g2, g3, g4, g5, g6]
def isCode : Jvm.Cond → Bool
  | .code _ _ _ _ => true
  | _ => false
theorem all_split {L : List Jvm.Cond} {P : Jvm.Cond → Bool} (h1 : L.all (fun c => isCode c || P c) = true) (h2 : ∀ c ∈ L.filter isCode, P c = true) : L.all P = true := by
  refine List.all_eq_true.mpr fun c hc => ?_
  have h := List.all_eq_true.mp h1 c hc
  rcases Bool.eq_false_or_eq_true (isCode c) with hi | hi
  · exact h2 c (List.mem_filter.mpr ⟨hc, hi⟩)
  · simpa [hi] using h
set_option maxRecDepth 65536 in
theorem w_c0 : (Jvm.Cond.code x code maxLocals ret).before args0 about1 = true := code_word (m := ⟨1, 1⟩) (meth := k1m1) (c := k1c1) (by decide +kernel) rfl rfl rfl (by decide +kernel)
set_option maxRecDepth 65536 in
theorem w_c1 : (Jvm.Cond.code ({ cls := "com/example/farcall/farcall/XdrWriter", name := "<init>", desc := "()V" } : Jvm.MethodName) prog_55_method_1_code (1 : Nat) (Option.none : Option Jvm.ClassFile.FieldType)).before args0 about1 = true := code_word (m := ⟨2, 0⟩) (meth := k2m0) (c := k2c0) (by decide +kernel) rfl rfl rfl (by decide +kernel)
set_option maxRecDepth 65536 in
theorem w_c2 : (Jvm.Cond.code ({ cls := "java/lang/Object", name := "<init>", desc := "()V" } : Jvm.MethodName) object_method_1_code (1 : Nat) (Option.none : Option Jvm.ClassFile.FieldType)).before args0 about1 = true := code_word (m := ⟨0, 0⟩) (meth := k0m0) (c := k0c0) (by decide +kernel) rfl rfl rfl (by decide +kernel)
set_option maxRecDepth 65536 in
theorem w_c3 : (Jvm.Cond.code ({ cls := "com/example/farcall/farcall/XdrWriter", name := "writeInt", desc := "(I)V" } : Jvm.MethodName) prog_55_method_2_code (2 : Nat) (Option.none : Option Jvm.ClassFile.FieldType)).before args0 about1 = true := code_word (m := ⟨2, 1⟩) (meth := k2m1) (c := k2c1) (by decide +kernel) rfl rfl rfl (by decide +kernel)
set_option maxRecDepth 65536 in
theorem w_c4 : (Jvm.Cond.code ({ cls := "com/example/farcall/farcall/XdrWriter", name := "ensureRoom", desc := "(I)V" } : Jvm.MethodName) prog_55_method_22_code (3 : Nat) (Option.none : Option Jvm.ClassFile.FieldType)).before args0 about1 = true := code_word (m := ⟨2, 6⟩) (meth := k2m6) (c := k2c6) (by decide +kernel) rfl rfl rfl (by decide +kernel)
set_option maxRecDepth 65536 in
theorem w_c5 : (Jvm.Cond.code ({ cls := "com/example/farcall/farcall/XdrWriter", name := "putInt", desc := "(II)V" } : Jvm.MethodName) prog_55_method_21_code (3 : Nat) (Option.none : Option Jvm.ClassFile.FieldType)).before args0 about1 = true := code_word (m := ⟨2, 5⟩) (meth := k2m5) (c := k2c5) (by decide +kernel) rfl rfl rfl (by decide +kernel)
set_option maxRecDepth 65536 in
theorem w_c6 : (Jvm.Cond.code ({ cls := "com/example/farcall/farcall/XdrWriter", name := "toByteArray", desc := "()[B" } : Jvm.MethodName) prog_55_method_19_code (1 : Nat) (Option.some (Jvm.ClassFile.FieldType.array Jvm.ClassFile.FieldType.byte))).before args0 about1 = true := code_word (m := ⟨2, 3⟩) (meth := k2m3) (c := k2c3) (by decide +kernel) rfl rfl rfl (by decide +kernel)
set_option maxRecDepth 65536 in
theorem w_c7 : (Jvm.Cond.code ({ cls := "java/util/Arrays", name := "copyOfRange", desc := "([BII)[B" } : Jvm.MethodName) jdk_65_method_132_code (3 : Nat) (Option.some (Jvm.ClassFile.FieldType.array Jvm.ClassFile.FieldType.byte))).before args0 about1 = true := code_word (m := ⟨3, 2⟩) (meth := k3m2) (c := k3c2) (by decide +kernel) rfl rfl rfl (by decide +kernel)
set_option maxRecDepth 65536 in
theorem w_c8 : (Jvm.Cond.code ({ cls := "java/util/Arrays", name := "copyOfRangeByte", desc := "([BII)[B" } : Jvm.MethodName) jdk_65_method_133_code (5 : Nat) (Option.some (Jvm.ClassFile.FieldType.array Jvm.ClassFile.FieldType.byte))).before args0 about1 = true := code_word (m := ⟨3, 3⟩) (meth := k3m3) (c := k3c3) (by decide +kernel) rfl rfl rfl (by decide +kernel)
set_option maxRecDepth 65536 in
theorem w_c9 : (Jvm.Cond.code ({ cls := "java/util/Arrays", name := "checkLength", desc := "(II)V" } : Jvm.MethodName) jdk_65_method_131_code (2 : Nat) (Option.none : Option Jvm.ClassFile.FieldType)).before args0 about1 = true := code_word (m := ⟨3, 1⟩) (meth := k3m1) (c := k3c1) (by decide +kernel) rfl rfl rfl (by decide +kernel)
set_option maxRecDepth 65536 in
theorem w_c10 : (Jvm.Cond.code ({ cls := "java/lang/Math", name := "min", desc := "(II)I" } : Jvm.MethodName) jdk_29_method_69_code (2 : Nat) (Option.some Jvm.ClassFile.FieldType.int)).before args0 about1 = true := code_word (m := ⟨4, 1⟩) (meth := k4m1) (c := k4c1) (by decide +kernel) rfl rfl rfl (by decide +kernel)
set_option maxRecDepth 65536 in
theorem w_c11 : (Jvm.Cond.code ({ cls := "com/example/farcall/farcall/XdrWriterToByteArrayPinLaw", name := "matches", desc := "([B[II)Z" } : Jvm.MethodName) method_4_code (3 : Nat) (Option.some Jvm.ClassFile.FieldType.boolean)).before args0 about1 = true := code_word (m := ⟨1, 3⟩) (meth := k1m3) (c := k1c3) (by decide +kernel) rfl rfl rfl (by decide +kernel)
set_option maxRecDepth 65536 in
theorem w_c12 : (Jvm.Cond.code ({ cls := "com/example/farcall/farcall/XdrWriterToByteArrayPinLaw", name := "unitAt", desc := "([BI)I" } : Jvm.MethodName) method_3_code (3 : Nat) (Option.some Jvm.ClassFile.FieldType.int)).before args0 about1 = true := code_word (m := ⟨1, 2⟩) (meth := k1m2) (c := k1c2) (by decide +kernel) rfl rfl rfl (by decide +kernel)
set_option maxRecDepth 65536 in
theorem w_c13 : (Jvm.Cond.code ({ cls := "com/example/farcall/farcall/XdrWriter", name := "writeLong", desc := "(J)V" } : Jvm.MethodName) prog_55_method_3_code (3 : Nat) (Option.none : Option Jvm.ClassFile.FieldType)).before args0 about1 = true := code_word (m := ⟨2, 2⟩) (meth := k2m2) (c := k2c2) (by decide +kernel) rfl rfl rfl (by decide +kernel)
set_option maxRecDepth 65536 in
theorem w_c14 : (Jvm.Cond.code ({ cls := "com/example/farcall/farcall/XdrWriter", name := "reset", desc := "()V" } : Jvm.MethodName) prog_55_method_20_code (1 : Nat) (Option.none : Option Jvm.ClassFile.FieldType)).before args0 about1 = true := code_word (m := ⟨2, 4⟩) (meth := k2m4) (c := k2c4) (by decide +kernel) rfl rfl rfl (by decide +kernel)
def codes1 : List Jvm.Cond := [Jvm.Cond.code x code maxLocals ret, Jvm.Cond.code ({ cls := "com/example/farcall/farcall/XdrWriter", name := "<init>", desc := "()V" } : Jvm.MethodName) prog_55_method_1_code (1 : Nat) (Option.none : Option Jvm.ClassFile.FieldType), Jvm.Cond.code ({ cls := "java/lang/Object", name := "<init>", desc := "()V" } : Jvm.MethodName) object_method_1_code (1 : Nat) (Option.none : Option Jvm.ClassFile.FieldType), Jvm.Cond.code ({ cls := "com/example/farcall/farcall/XdrWriter", name := "writeInt", desc := "(I)V" } : Jvm.MethodName) prog_55_method_2_code (2 : Nat) (Option.none : Option Jvm.ClassFile.FieldType), Jvm.Cond.code ({ cls := "com/example/farcall/farcall/XdrWriter", name := "ensureRoom", desc := "(I)V" } : Jvm.MethodName) prog_55_method_22_code (3 : Nat) (Option.none : Option Jvm.ClassFile.FieldType), Jvm.Cond.code ({ cls := "com/example/farcall/farcall/XdrWriter", name := "putInt", desc := "(II)V" } : Jvm.MethodName) prog_55_method_21_code (3 : Nat) (Option.none : Option Jvm.ClassFile.FieldType), Jvm.Cond.code ({ cls := "com/example/farcall/farcall/XdrWriter", name := "toByteArray", desc := "()[B" } : Jvm.MethodName) prog_55_method_19_code (1 : Nat) (Option.some (Jvm.ClassFile.FieldType.array Jvm.ClassFile.FieldType.byte)), Jvm.Cond.code ({ cls := "java/util/Arrays", name := "copyOfRange", desc := "([BII)[B" } : Jvm.MethodName) jdk_65_method_132_code (3 : Nat) (Option.some (Jvm.ClassFile.FieldType.array Jvm.ClassFile.FieldType.byte)), Jvm.Cond.code ({ cls := "java/util/Arrays", name := "copyOfRangeByte", desc := "([BII)[B" } : Jvm.MethodName) jdk_65_method_133_code (5 : Nat) (Option.some (Jvm.ClassFile.FieldType.array Jvm.ClassFile.FieldType.byte)), Jvm.Cond.code ({ cls := "java/util/Arrays", name := "checkLength", desc := "(II)V" } : Jvm.MethodName) jdk_65_method_131_code (2 : Nat) (Option.none : Option Jvm.ClassFile.FieldType), Jvm.Cond.code ({ cls := "java/lang/Math", name := "min", desc := "(II)I" } : Jvm.MethodName) jdk_29_method_69_code (2 : Nat) (Option.some Jvm.ClassFile.FieldType.int), Jvm.Cond.code ({ cls := "com/example/farcall/farcall/XdrWriterToByteArrayPinLaw", name := "matches", desc := "([B[II)Z" } : Jvm.MethodName) method_4_code (3 : Nat) (Option.some Jvm.ClassFile.FieldType.boolean), Jvm.Cond.code ({ cls := "com/example/farcall/farcall/XdrWriterToByteArrayPinLaw", name := "unitAt", desc := "([BI)I" } : Jvm.MethodName) method_3_code (3 : Nat) (Option.some Jvm.ClassFile.FieldType.int), Jvm.Cond.code ({ cls := "com/example/farcall/farcall/XdrWriter", name := "writeLong", desc := "(J)V" } : Jvm.MethodName) prog_55_method_3_code (3 : Nat) (Option.none : Option Jvm.ClassFile.FieldType), Jvm.Cond.code ({ cls := "com/example/farcall/farcall/XdrWriter", name := "reset", desc := "()V" } : Jvm.MethodName) prog_55_method_20_code (1 : Nat) (Option.none : Option Jvm.ClassFile.FieldType)]
set_option maxRecDepth 65536 in
theorem codes_eq : words1.filter isCode = codes1 := rfl
theorem w_codes : ∀ c ∈ words1.filter isCode, c.before args0 about1 = true := by
  rw [codes_eq]
  intro c hc
  simp only [codes1, List.mem_cons, List.not_mem_nil, or_false] at hc
  rcases hc with rfl | rfl | rfl | rfl | rfl | rfl | rfl | rfl | rfl | rfl | rfl | rfl | rfl | rfl | rfl
  · exact w_c0
  · exact w_c1
  · exact w_c2
  · exact w_c3
  · exact w_c4
  · exact w_c5
  · exact w_c6
  · exact w_c7
  · exact w_c8
  · exact w_c9
  · exact w_c10
  · exact w_c11
  · exact w_c12
  · exact w_c13
  · exact w_c14
set_option maxRecDepth 65536 in
theorem w_t1 : (words1.take 24).all (fun c => isCode c || c.before args0 about1) = true := by decide +kernel
set_option maxRecDepth 65536 in
theorem w_t2 : ((words1.drop 24).take 24).all (fun c => isCode c || c.before args0 about1) = true := by decide +kernel
set_option maxRecDepth 65536 in
theorem w_t3 : ((words1.drop 24).drop 24).all (fun c => isCode c || c.before args0 about1) = true := by decide +kernel
theorem w_tables : (allAtoms (Jvm.Cond.code x code maxLocals ret :: tables_1)).before args0 about1 = true := by
  rw [allAtoms_all]
  show words1.all (fun c => c.before args0 about1) = true
  refine all_split ?_ w_codes
  rw [← List.take_append_drop 24 words1, List.all_append, w_t1, ← List.take_append_drop 24 (words1.drop 24), List.all_append, w_t2, w_t3]
  rfl
set_option maxRecDepth 65536 in
theorem w_case : (Jvm.Cond.and given_1 narrow_1).before args0 about1 = true := by decide +kernel
theorem w_applies : (headSpec (Jvm.Cond.code x code maxLocals ret :: tables_1) room_1).applies x e0.platform about1 = true :=
  (Spec.applies_iff w_frames).mpr ⟨w_running, w_runnable, w_alone, w_named, w_hears, w_ripe, w_room, w_tables⟩
theorem atStart : AtStart classFile x code maxLocals ret World_1 tables_1 room_1 Calls_1 rest_1 Pre_1 launch0 p0 e0 about1 theMethod args0 below0 :=
  ⟨lists_1, trivial, launch0.admits_env _ _ _, launch0.least_env, fairChoices_fair.cas, fairChoices_fair.clock, w_frames, w_args, w_heap, w_applies, trivial, trivial, w_case⟩
end start1
theorem witness_1 : WitnessClaimed_1 := ⟨start1.p0, start1.e0, start1.about1, start1.theMethod, start1.args0, start1.below0, start1.atStart⟩
end Jvm.Pilot.@@N@@
