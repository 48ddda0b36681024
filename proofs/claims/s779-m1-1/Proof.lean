import JvmDerived
import JvmDerived.Pilot.@@N@@Statement
import JvmDerived.Pilot.@@N@@Code
set_option linter.unusedVariables false
set_option linter.unusedSimpArgs false
namespace Jvm.Pilot.@@N@@
open Jvm Jvm.ClassFile Sem Op Lib Jvm.Free Jvm.Stand Jvm.LawKit Jvm.RoadKit Bundle Jvm.Pilot.@@N@@.Jvm.D
section Own
variable {p : Program} {l : Launch} {e : Env} {R : Room} {s : State} {m : MethodId} {args : Array Value} {below : List Frame} {meth : Method} {c : Code} {T : State} {locs : List Loc} {cells slots : Nat} {Z : State} {a0 : Array Value} {h : Heap} {Q : Option Value → Heap → List Loc → Prop} {C S : Nat} {u u' : State} {F : Outcome → State → List Loc → Prop}
/-- from u the invocation comes to its end, and Q holds of what it returns, of the heap and of the places written -/
def ownFin (p : Program) (e : Env) (below : List Frame) (F : Outcome → State → List Loc → Prop) (Q : Option Value → Heap → List Loc → Prop) (u : State) : Prop :=
  ∃ t o, Steps p.tables e below u t ∧ t.status = .running ∧ Ended t below o ∧ ∃ v L, o = .returned v ∧ Q v t.heap L ∧ F o t L
/-- how it ends: at most C new cells of S slots, the tables warmer, nothing old written but at the places L -/
def ownFE (s : State) (C S : Nat) : Outcome → State → List Loc → Prop := fun o t L => FrameEnd s o t L C S
theorem ownVia (f : ∀ t, Steps p.tables e below u' t → Steps p.tables e below u t) (k : ownFin p e below F Q u') : ownFin p e below F Q u := by
  obtain ⟨t, o, h1, r⟩ := k
  exact ⟨t, o, f t h1, r⟩
theorem ownRet (X : Stand p l e R s m args below meth c T locs cells slots) (hlk : meth.locks = false) {v : Option Value} (hv : meth.sig.returnType = none → v = none)
    (f : ∀ fs, (∀ (f : JFrame) (acts : List Action), f.method = m → f.locked = none → f.entered = [] → (doReturn e (T.setTop f) acts v).1 = T.setFrames fs) → Steps p.tables e below u (T.setFrames fs))
    (hC : cells ≤ C) (hS : slots ≤ S) (hQ : Q v T.heap locs) : ownFin p e below (ownFE s C S) Q u := by
  obtain ⟨fs, hr, hrun, hended, hW, hsame⟩ := X.leave (v := v) hv hlk
  exact ⟨_, _, f fs hr, hrun, hended, v, _, rfl, hQ, ⟨_, rfl⟩, hW, hsame.mono hC hS⟩
theorem ownRetI (X : Stand p l e R s m args below meth c T locs cells slots) (hx : p.tables.exec = Jvm.exec) (hlk : meth.locks = false) (hret : meth.sig.returnType = some .int) {pc : Nat} {Ls : Array Slot} {z : Int32} {rest : List Value} (hd : decode c.code pc = .ok (.ireturn, 1)) (hC : cells ≤ C) (hS : slots ≤ S) (hQ : Q (some (.int z)) T.heap locs) : ownFin p e below (ownFE s C S) Q (T.setTop (mkF m pc Ls (.int z :: rest))) :=
  ownRet X hlk (v := some (.int z)) (fun q => by rw [hret] at q; cases q) (fun fs hr => retOut X hx hret rfl (Or.inl ⟨rfl, Or.inl rfl, z, rfl⟩) hd hr) hC hS hQ
theorem ownRetZ (X : Stand p l e R s m args below meth c T locs cells slots) (hx : p.tables.exec = Jvm.exec) (hlk : meth.locks = false) (hret : meth.sig.returnType = some .boolean) {pc : Nat} {Ls : Array Slot} {z : Int32} {rest : List Value} (hd : decode c.code pc = .ok (.ireturn, 1)) (hC : cells ≤ C) (hS : slots ≤ S) (hz : z = 0 ∨ z = 1) (hQ : Q (some (.int z)) T.heap locs) : ownFin p e below (ownFE s C S) Q (T.setTop (mkF m pc Ls (.int z :: rest))) :=
  ownRet X hlk (v := some (.int z)) (fun q => by rw [hret] at q; cases q) (fun fs hr => retOut X hx hret (by rcases hz with rfl | rfl <;> rfl) (Or.inl ⟨rfl, Or.inr (Or.inl rfl), z, rfl⟩) hd hr) hC hS hQ
theorem ownRetJ (X : Stand p l e R s m args below meth c T locs cells slots) (hx : p.tables.exec = Jvm.exec) (hlk : meth.locks = false) (hret : meth.sig.returnType = some .long) {pc : Nat} {Ls : Array Slot} {z : Int64} {rest : List Value} (hd : decode c.code pc = .ok (.lreturn, 1)) (hC : cells ≤ C) (hS : slots ≤ S) (hQ : Q (some (.long z)) T.heap locs) : ownFin p e below (ownFE s C S) Q (T.setTop (mkF m pc Ls (.long z :: rest))) :=
  ownRet X hlk (v := some (.long z)) (fun q => by rw [hret] at q; cases q) (fun fs hr => retOut X hx hret rfl (Or.inr (Or.inl ⟨rfl, rfl, z, rfl⟩)) hd hr) hC hS hQ
theorem ownRetA (X : Stand p l e R s m args below meth c T locs cells slots) (hx : p.tables.exec = Jvm.exec) (hlk : meth.locks = false) {ty : FieldType} (hret : meth.sig.returnType = some ty) (hty : ty.isReference = true) {pc : Nat} {Ls : Array Slot} {a : Addr} {rest : List Value} (hd : decode c.code pc = .ok (.areturn, 1)) (hC : cells ≤ C) (hS : slots ≤ S) (hQ : Q (some (.ref a)) T.heap locs) : ownFin p e below (ownFE s C S) Q (T.setTop (mkF m pc Ls (.ref a :: rest))) :=
  ownRet X hlk (v := some (.ref a)) (fun q => by rw [hret] at q; cases q) (fun fs hr => retOut X hx hret (by cases ty <;> first | rfl | cases hty) (Or.inr (Or.inr (Or.inr (Or.inr ⟨rfl, hty, rfl⟩)))) hd hr) hC hS hQ
theorem ownRetV (X : Stand p l e R s m args below meth c T locs cells slots) (hx : p.tables.exec = Jvm.exec) (hlk : meth.locks = false) (hret : meth.sig.returnType = none) {pc : Nat} {Ls : Array Slot} (hd : decode c.code pc = .ok (.return_, 1)) (hC : cells ≤ C) (hS : slots ≤ S) (hQ : Q none T.heap locs) : ownFin p e below (ownFE s C S) Q (T.setTop (mkF m pc Ls [])) :=
  ownRet X hlk (v := none) (fun _ => rfl) (fun fs hr => X.returnOut hx hret hd hr) hC hS hQ
/-- the contract of a method at given arguments and a given heap -/
abbrev ownMet (l : Launch) (Z : State) (y : MethodName) (bytes : ByteArray) (maxL : Nat) (ret : Option FieldType) (ws : List Jvm.Cond) (rm : Room) (as' : Array Value) (h0 : Heap) (Q : Option Value → Heap → List Loc → Prop) : Prop :=
  MetFree l y (head1 (Jvm.Cond.code y bytes maxL ret :: ws) rm) (fun a U => a = as' ∧ Z.Warmed39 U.vm ∧ U.heap = h0) (fun _ _ _ _ _ => True) (fun _ U o U' => ∃ v L, o = .returned v ∧ Q v U'.heap L ∧ FrameEnd U o U' L rm.cells rm.slots)
theorem ownBody {y : MethodName} {bytes : ByteArray} {maxL : Nat} {ret : Option FieldType} {ws : List Jvm.Cond} {rm : Room} {as' : Array Value} {h0 : Heap} (hpl : plainFor y = true)
    (H : ∀ (p : Program) (e : Env) (s : State) (m : MethodId) (below : List Frame) (meth : Method) (c : Code) (T : State), p.tables.exec = Jvm.exec → c.code = bytes → c.maxLocals = maxL → meth.sig.returnType = ret → meth.locks = false → Z.Warmed39 s.vm → s.vm.findClass y.cls = some m.cls → meth.name = y.name →
      Stand p l e rm s m as' below meth c T [] 0 0 → T.heap = h0 → ownFin p e below (ownFE s rm.cells rm.slots) Q (T.setTop (entryFrame m as' maxL))) : ownMet l Z y bytes maxL ret ws rm as' h0 Q := by
  refine MetFree.of_bodySF hpl hisR ?_
  intro p e s m args below meth c s₁ Bd hml0 hP hK
  obtain ⟨rfl, hZ, hh⟩ := hP
  exact H p e s m below meth c s₁ Bd.exec Bd.bytes hml0 Bd.returns Bd.notSynchronized hZ (findClass_of_methodNamed Bd.named) (name_of_methodNamed Bd.named Bd.method).1 (Stand.of_body Bd) (by rw [← hh, Bd.state]; rfl)
theorem ownCallS {own : String} {index : Nat} {y : MethodName} {bytes : ByteArray} {maxL : Nat} {ret : Option FieldType} {rm : Room} {as' : Array Value} {Q' : Option Value → Heap → List Loc → Prop}
    (X : Stand p l e R s m args below meth c T locs cells slots) (hx : p.tables.exec = Jvm.exec) (hZ : Z.Warmed39 s.vm) (hown : s.vm.findClass own = some m.cls)
    (w1 : (Jvm.Cond.methodLink own index y).before a0 Z = true) (w2 : (Jvm.Cond.static y).before a0 Z = true) (w3 : (Jvm.Cond.initialized y.cls).before a0 Z = true) (w4 : (Jvm.Cond.code y bytes maxL ret).before a0 Z = true)
    (hy : y.cls ≠ "java/lang/invoke/MethodHandle" ∧ y.cls ≠ "java/lang/invoke/VarHandle") (eT : T.heap = h) (hM : ownMet l Z y bytes maxL ret [] rm as' h Q')
    {pc : Nat} {Ls : Array Slot} {st : List Value} (hsz : Ls.size = c.maxLocals) (argsL rest : List Value) (hlen : ∀ sig, parseMethodDescriptor y.desc = some sig → argsL.length = sig.parameters.length)
    (hst : st = argsL.reverse ++ rest) (has : argsL.toArray = as') (W : Nat) (hW : (rest.map fun v => v.category).sum = W) (hd : decode c.code pc = .ok (.invokestatic index, 3))
    (hfr : rm.frames + 1 ≤ R.frames) (hlo : W + (maxL + 11) + rm.locals ≤ R.locals) (hce : cells + rm.cells ≤ R.cells) (hsl : slots + rm.slots ≤ R.slots)
    (K : ∀ v T' L', Stand p l e R s m args below meth c T' (locs ++ L') (cells + rm.cells) (slots + rm.slots) → Q' v T'.heap L' → ownFin p e below F Q (T'.setTop (mkF m (pc + 3) Ls (v.toList ++ rest)))) :
    ownFin p e below F Q (T.setTop (mkF m pc Ls st)) := by
  obtain ⟨v, _, ⟨T2, L2, k2, n2⟩, -, X2, ⟨Lc2, hQ2, l2, y2, z2⟩, st2⟩ := Jvm.LawKit.callS X hx (y := y) hown (mvT hZ w1) (mvT hZ w2) (mvT hZ w3) (mvT hZ w4) hy (backOf (W := W) hM hZ w4 w3 hfr hlo) (g := mkF m pc Ls st) rfl hsz (argsL := argsL) (rest := rest) hlen hst (by show 2 * 0 + _ ≤ _; omega) hd (fun _ _ => ⟨has, eT, hce, hsl⟩)
  dsimp only [Pt.U, Pt.locs, Pt.cells, Pt.slots] at X2 l2 y2 z2 st2 hQ2
  subst l2 y2 z2
  exact ownVia st2 (K v T2 Lc2 X2 hQ2)
theorem ownCallN {own : String} {index : Nat} {y : MethodName} {bytes : ByteArray} {maxL : Nat} {rm : Room} {as' : Array Value} {Q' : Option Value → Heap → List Loc → Prop}
    (X : Stand p l e R s m args below meth c T locs cells slots) (hx : p.tables.exec = Jvm.exec) (hZ : Z.Warmed39 s.vm) (hown : s.vm.findClass own = some m.cls) (hy1 : y.name = "<init>")
    (w1 : (Jvm.Cond.methodLink own index y).before a0 Z = true) (w2 : (Jvm.Cond.instanceMethod y).before a0 Z = true) (w3 : (Jvm.Cond.initialized y.cls).before a0 Z = true) (w4 : (Jvm.Cond.code y bytes maxL none).before a0 Z = true)
    (hy : y.cls ≠ "java/lang/invoke/MethodHandle" ∧ y.cls ≠ "java/lang/invoke/VarHandle") (eT : T.heap = h) (hM : ownMet l Z y bytes maxL none [] rm as' h Q')
    {pc : Nat} {Ls : Array Slot} {st : List Value} (hsz : Ls.size = c.maxLocals) (a : Addr) (argsL rest : List Value) (hlen : ∀ sig, parseMethodDescriptor y.desc = some sig → argsL.length = sig.parameters.length)
    (hst : st = argsL.reverse ++ .ref a :: rest) (has : (Value.ref a :: argsL).toArray = as') (W : Nat) (hW : (rest.map fun v => v.category).sum = W) (hd : decode c.code pc = .ok (.invokespecial index, 3))
    (hfr : rm.frames + 1 ≤ R.frames) (hlo : W + (maxL + 11) + rm.locals ≤ R.locals) (hce : cells + rm.cells ≤ R.cells) (hsl : slots + rm.slots ≤ R.slots)
    (K : ∀ v T' L', Stand p l e R s m args below meth c T' (locs ++ L') (cells + rm.cells) (slots + rm.slots) → Q' v T'.heap L' → ownFin p e below F Q (T'.setTop (mkF m (pc + 3) Ls (v.toList ++ rest)))) :
    ownFin p e below F Q (T.setTop (mkF m pc Ls st)) := by
  obtain ⟨v, _, ⟨T2, L2, k2, n2⟩, -, X2, ⟨Lc2, hQ2, l2, y2, z2⟩, st2⟩ := X.specialBack hx (y := y) hy1 hown (mvT hZ w1) (mvT hZ w2) (mvT hZ w4) hy (backOf (W := W) hM hZ w4 w3 hfr hlo) (g := mkF m pc Ls st) rfl hsz (Steps.refl _) (a := a) (argsL := argsL) (rest := rest) hlen hst (by show 2 * 0 + _ ≤ _; omega) hd (fun _ _ => ⟨has, eT, hce, hsl⟩)
  dsimp only [Pt.U, Pt.locs, Pt.cells, Pt.slots] at X2 l2 y2 z2 st2 hQ2
  subst l2 y2 z2
  exact ownVia (fun _ k => st2.trans k) (K v T2 Lc2 X2 hQ2)
theorem ownCallV {own C' : String} {index : Nat} {y z : MethodName} {bytes : ByteArray} {maxL : Nat} {ret : Option FieldType} {rm : Room} {as' : Array Value} {Q' : Option Value → Heap → List Loc → Prop}
    (X : Stand p l e R s m args below meth c T locs cells slots) (hx : p.tables.exec = Jvm.exec) (hZ : Z.Warmed39 s.vm) (hown : s.vm.findClass own = some m.cls)
    (w1 : (Jvm.Cond.methodLink own index y).before a0 Z = true) (w2 : (Jvm.Cond.declares y).before a0 Z = true) (w5 : (Jvm.Cond.selects y.cls y y).before a0 Z = true) (w6 : (Jvm.Cond.selects C' y z).before a0 Z = true) (w7 : (Jvm.Cond.instanceMethod z).before a0 Z = true) (w3 : (Jvm.Cond.initialized z.cls).before a0 Z = true) (w4 : (Jvm.Cond.code z bytes maxL ret).before a0 Z = true)
    (hy : y.cls ≠ "java/lang/invoke/MethodHandle" ∧ y.cls ≠ "java/lang/invoke/VarHandle") (eT : T.heap = h) {a : Addr} (E : Exa Z h a C') (hM : ownMet l Z z bytes maxL ret [] rm as' h Q')
    {pc : Nat} {Ls : Array Slot} {st : List Value} (hsz : Ls.size = c.maxLocals) (argsL rest : List Value) (hlen : ∀ sig, parseMethodDescriptor y.desc = some sig → argsL.length = sig.parameters.length)
    (hst : st = argsL.reverse ++ .ref a :: rest) (has : (Value.ref a :: argsL).toArray = as') (W : Nat) (hW : (rest.map fun v => v.category).sum = W) (hd : decode c.code pc = .ok (.invokevirtual index, 3))
    (hfr : rm.frames + 1 ≤ R.frames) (hlo : W + (maxL + 11) + rm.locals ≤ R.locals) (hce : cells + rm.cells ≤ R.cells) (hsl : slots + rm.slots ≤ R.slots)
    (K : ∀ v T' L', Stand p l e R s m args below meth c T' (locs ++ L') (cells + rm.cells) (slots + rm.slots) → Q' v T'.heap L' → ownFin p e below F Q (T'.setTop (mkF m (pc + 3) Ls (v.toList ++ rest)))) :
    ownFin p e below F Q (T.setTop (mkF m pc Ls st)) := by
  obtain ⟨cq, kq, qa, qb, qc⟩ := isOf hZ eT E
  obtain ⟨v, _, ⟨T2, L2, k2, n2⟩, -, X2, ⟨Lc2, hQ2, l2, y2, z2⟩, st2⟩ := X.virtualBack hx (y := y) (z := z) hown (mvT hZ w1) (mvT hZ w2) (notFace_of_selects (args := #[]) (mvT hZ w5)) (mvT hZ w6) (mvT hZ w7) hy (backOf (W := W) hM hZ w4 w3 hfr hlo) qa qc (g := mkF m pc Ls st) rfl hsz (Steps.refl _) (argsL := argsL) (rest := rest) hlen hst (by show 2 * 0 + _ ≤ _; omega) hd (fun _ _ => ⟨has, eT, hce, hsl⟩)
  dsimp only [Pt.U, Pt.locs, Pt.cells, Pt.slots] at X2 l2 y2 z2 st2 hQ2
  subst l2 y2 z2
  exact ownVia (fun _ k => st2.trans k) (K v T2 Lc2 X2 hQ2)
theorem ownLen {a : Addr} {k : ClassId} {ty : FieldType} {z : Int32} {vs : List Value} {dv : Value} (X : Stand p l e R s m args below meth c T locs cells slots) (hx : p.tables.exec = Jvm.exec) (hZ : Z.Warmed39 s.vm) (eT : T.heap = h) (A : Arv Z h a k ty z vs dv) {pc : Nat} {Ls : Array Slot} {rest : List Value} (hd : decode c.code pc = .ok (.arraylength, 1))
    (K : ownFin p e below F Q (T.setTop (mkF m (pc + 1) Ls (.int z :: rest)))) : ownFin p e below F Q (T.setTop (mkF m pc Ls (.ref a :: rest))) := by
  obtain ⟨cl, Ar, -, Sz, Nz, -, -⟩ := A
  rw [← len_of Sz Nz] at K
  exact ownVia (fun t k => X.arraylength hx (by rw [eT]; exact Ar.1) (State.isArrayOf_alike hZ.alike Ar.2.1) (g := mkF m pc Ls (.ref a :: rest)) rfl rfl hd t k) K
theorem ownBaload {a : Addr} {k : ClassId} {z j : Int32} {vs : List Value} {dv v : Value} (X : Stand p l e R s m args below meth c T locs cells slots) (hx : p.tables.exec = Jvm.exec) (hZ : Z.Warmed39 s.vm) (eT : T.heap = h) (A : Arv Z h a k .byte z vs dv) (hj : ¬ j < 0 ∧ j < z) (hv : vs.getD j.toNatClampNeg dv = v) {pc : Nat} {Ls : Array Slot} {rest : List Value} (hd : decode c.code pc = .ok (.baload, 1))
    (K : ownFin p e below F Q (T.setTop (mkF m (pc + 1) Ls (v :: rest)))) : ownFin p e below F Q (T.setTop (mkF m pc Ls (.int j :: .ref a :: rest))) := by
  obtain ⟨cl, Ar, -, Sz, Nz, H, -⟩ := A
  have hin := inb_of Sz hj
  exact ownVia (fun t k => X.baloadBytes hx (by rw [eT]; exact Ar.1) (State.isArrayOf_alike hZ.alike Ar.2.1) Ar.2.2 hin (H.at hin hv) (g := mkF m pc Ls (.int j :: .ref a :: rest)) rfl rfl hd t k) K
theorem ownIaload {a : Addr} {k : ClassId} {z j : Int32} {vs : List Value} {dv v : Value} (X : Stand p l e R s m args below meth c T locs cells slots) (hx : p.tables.exec = Jvm.exec) (hZ : Z.Warmed39 s.vm) (eT : T.heap = h) (A : Arv Z h a k .int z vs dv) (hj : ¬ j < 0 ∧ j < z) (hv : vs.getD j.toNatClampNeg dv = v) {pc : Nat} {Ls : Array Slot} {rest : List Value} (hd : decode c.code pc = .ok (.iaload, 1))
    (K : ownFin p e below F Q (T.setTop (mkF m (pc + 1) Ls (v :: rest)))) : ownFin p e below F Q (T.setTop (mkF m pc Ls (.int j :: .ref a :: rest))) := by
  obtain ⟨cl, Ar, -, Sz, Nz, H, -⟩ := A
  have hin := inb_of Sz hj
  exact ownVia (fun t k => X.iaload hx (by rw [eT]; exact Ar.1) (State.isArrayOf_alike hZ.alike Ar.2.1) Ar.2.2 hin (H.at hin hv) (g := mkF m pc Ls (.int j :: .ref a :: rest)) rfl rfl hd t k) K
theorem ownLaload {a : Addr} {k : ClassId} {z j : Int32} {vs : List Value} {dv v : Value} (X : Stand p l e R s m args below meth c T locs cells slots) (hx : p.tables.exec = Jvm.exec) (hZ : Z.Warmed39 s.vm) (eT : T.heap = h) (A : Arv Z h a k .long z vs dv) (hj : ¬ j < 0 ∧ j < z) (hv : vs.getD j.toNatClampNeg dv = v) {pc : Nat} {Ls : Array Slot} {rest : List Value} (hd : decode c.code pc = .ok (.laload, 1))
    (K : ownFin p e below F Q (T.setTop (mkF m (pc + 1) Ls (v :: rest)))) : ownFin p e below F Q (T.setTop (mkF m pc Ls (.int j :: .ref a :: rest))) := by
  obtain ⟨cl, Ar, -, Sz, Nz, H, -⟩ := A
  have hin := inb_of Sz hj
  exact ownVia (fun t k => X.laload hx (by rw [eT]; exact Ar.1) (State.isArrayOf_alike hZ.alike Ar.2.1) Ar.2.2 hin (H.at hin hv) (g := mkF m pc Ls (.int j :: .ref a :: rest)) rfl rfl hd t k) K
theorem ownBastore {a : Addr} {k : ClassId} {z j x : Int32} {vs : List Value} {dv : Value} {n0 : Nat} (X : Stand p l e R s m args below meth c T locs cells slots) (hx : p.tables.exec = Jvm.exec) (hZ : Z.Warmed39 s.vm) (eT : T.heap = h) (A : Arv Z h a k .byte z vs dv) (hj : ¬ j < 0 ∧ j < z) (i : Nat) (hi : j.toNatClampNeg = i) (hl : i < vs.length) (N : Fr n0 locs) (ge : n0 ≤ a) {pc : Nat} {Ls : Array Slot} {rest : List Value} (hd : decode c.code pc = .ok (.bastore, 1))
    (K : ∀ T' h' L', Stand p l e R s m args below meth c T' L' cells slots → T'.heap = h' → Fr n0 L' → Wr h h' a i (.int (nar .byte x)) → Arv Z h' a k .byte z (vs.set i (.int (nar .byte x))) dv → ownFin p e below F Q (T'.setTop (mkF m (pc + 1) Ls rest))) :
    ownFin p e below F Q (T.setTop (mkF m pc Ls (.int x :: .int j :: .ref a :: rest))) := by
  obtain ⟨cl, Ar, q1, Sz, Nz, H, G⟩ := A
  obtain ⟨T', h', X', e', W, st⟩ := stB X hx hZ eT Ar (j := j) (x := x) (inb_of Sz hj) (g := mkF m pc Ls (.int x :: .int j :: .ref a :: rest)) rfl rfl hd
  have N' := Fr.snoc X' N ge
  have A' := Arv.set Ar q1 Sz Nz H G (fits_nar_byte x) W i hi hl
  rw [hi] at W
  exact ownVia st (K T' h' _ X' e' N' W A')
theorem ownIastore {a : Addr} {k : ClassId} {z j x : Int32} {vs : List Value} {dv : Value} {n0 : Nat} (X : Stand p l e R s m args below meth c T locs cells slots) (hx : p.tables.exec = Jvm.exec) (hZ : Z.Warmed39 s.vm) (eT : T.heap = h) (A : Arv Z h a k .int z vs dv) (hj : ¬ j < 0 ∧ j < z) (i : Nat) (hi : j.toNatClampNeg = i) (hl : i < vs.length) (N : Fr n0 locs) (ge : n0 ≤ a) {pc : Nat} {Ls : Array Slot} {rest : List Value} (hd : decode c.code pc = .ok (.iastore, 1))
    (K : ∀ T' h' L', Stand p l e R s m args below meth c T' L' cells slots → T'.heap = h' → Fr n0 L' → Wr h h' a i (.int x) → Arv Z h' a k .int z (vs.set i (.int x)) dv → ownFin p e below F Q (T'.setTop (mkF m (pc + 1) Ls rest))) :
    ownFin p e below F Q (T.setTop (mkF m pc Ls (.int x :: .int j :: .ref a :: rest))) := by
  obtain ⟨cl, Ar, q1, Sz, Nz, H, G⟩ := A
  obtain ⟨T', h', X', e', W, st⟩ := stI X hx hZ eT Ar (j := j) (x := x) (inb_of Sz hj) (g := mkF m pc Ls (.int x :: .int j :: .ref a :: rest)) rfl rfl hd
  have N' := Fr.snoc X' N ge
  have A' := Arv.set Ar q1 Sz Nz H G rfl W i hi hl
  rw [hi] at W
  exact ownVia st (K T' h' _ X' e' N' W A')
theorem ownLastore {a : Addr} {k : ClassId} {z j : Int32} {x : Int64} {vs : List Value} {dv : Value} {n0 : Nat} (X : Stand p l e R s m args below meth c T locs cells slots) (hx : p.tables.exec = Jvm.exec) (hZ : Z.Warmed39 s.vm) (eT : T.heap = h) (A : Arv Z h a k .long z vs dv) (hj : ¬ j < 0 ∧ j < z) (i : Nat) (hi : j.toNatClampNeg = i) (hl : i < vs.length) (N : Fr n0 locs) (ge : n0 ≤ a) {pc : Nat} {Ls : Array Slot} {rest : List Value} (hd : decode c.code pc = .ok (.lastore, 1))
    (K : ∀ T' h' L', Stand p l e R s m args below meth c T' L' cells slots → T'.heap = h' → Fr n0 L' → Wr h h' a i (.long x) → Arv Z h' a k .long z (vs.set i (.long x)) dv → ownFin p e below F Q (T'.setTop (mkF m (pc + 1) Ls rest))) :
    ownFin p e below F Q (T.setTop (mkF m pc Ls (.long x :: .int j :: .ref a :: rest))) := by
  obtain ⟨cl, Ar, q1, Sz, Nz, H, G⟩ := A
  obtain ⟨T', h', X', e', W, st⟩ := stJ X hx hZ eT Ar (j := j) (x := x) (inb_of Sz hj) (g := mkF m pc Ls (.long x :: .int j :: .ref a :: rest)) rfl rfl hd
  have N' := Fr.snoc X' N ge
  have A' := Arv.set Ar q1 Sz Nz H G rfl W i hi hl
  rw [hi] at W
  exact ownVia st (K T' h' _ X' e' N' W A')
theorem ownNewP {aty : ArrayType} {n : Int32} (X : Stand p l e R s m args below meth c T locs cells slots) (hx : p.tables.exec = Jvm.exec) (hZ : Z.Warmed39 s.vm) (w : (Jvm.Cond.arrayClass (newarray.typeOf aty)).before a0 Z = true) (eT : T.heap = h) (ad : String) (had : "[" ++ (newarray.typeOf aty).toString = ad) (hn : ¬ n < 0) (N : Nat) (hN : n.toNatClampNeg = N) (cap : Nat) (hcap : N ≤ cap) (hb : cap * 8 ≤ 536870912) (hc : cells + 1 ≤ R.cells) (hl : slots + cap ≤ R.slots)
    {pc : Nat} {Ls : Array Slot} {rest : List Value} (hd : decode c.code pc = .ok (.newarray aty, 2))
    (K : ∀ T' h' k a, a = h.size → Stand p l e R s m args below meth c T' locs (cells + 1) (slots + cap) → T'.heap = h' → Ext h h' → Arv Z h' a k (newarray.typeOf aty) n (List.replicate N (defaultValue (newarray.typeOf aty))) (defaultValue (newarray.typeOf aty)) → Exa Z h' a ad → ownFin p e below F Q (T'.setTop (mkF m (pc + 2) Ls (.ref a :: rest)))) :
    ownFin p e below F Q (T.setTop (mkF m pc Ls (.int n :: rest))) := by
  obtain ⟨T', h', k, X', e', E, A, Ex, st⟩ := newPE X hx hZ w eT (g := mkF m pc Ls (.int n :: rest)) rfl hd rfl hn (cap := cap) (by rw [hN]; exact hcap) hb hc hl had
  exact ownVia st (K T' h' k _ rfl X' e' E ((Arv.new A hn).pad (pad_rep [] _ _)) Ex)
theorem ownClone {own : String} {index : Nat} {a : Addr} {k : ClassId} {ty : FieldType} {z : Int32} {vs : List Value} {dv : Value} {ad : String} (X : Stand p l e R s m args below meth c T locs cells slots) (hx : p.tables.exec = Jvm.exec) (hZ : Z.Warmed39 s.vm) (hown : s.vm.findClass own = some m.cls)
    (w1 : (Jvm.Cond.methodLink own index ⟨ad, "clone", "()Ljava/lang/Object;"⟩).before a0 Z = true) (w2 : (Jvm.Cond.sameMethod ad "java/lang/Object" "clone" "()Ljava/lang/Object;").before a0 Z = true) (w3 : (Jvm.Cond.native ⟨"java/lang/Object", "clone", "()Ljava/lang/Object;"⟩).before a0 Z = true)
    (w4 : (Jvm.Cond.instanceMethod ⟨"java/lang/Object", "clone", "()Ljava/lang/Object;"⟩).before a0 Z = true) (w5 : (Jvm.Cond.selects ad ⟨ad, "clone", "()Ljava/lang/Object;"⟩ ⟨"java/lang/Object", "clone", "()Ljava/lang/Object;"⟩).before a0 Z = true) (w6 : (Jvm.Cond.castable ad "java/lang/Cloneable").before a0 Z = true)
    (eT : T.heap = h) (A : Arv Z h a k ty z vs dv) (E : Exa Z h a ad) {pc : Nat} {Ls : Array Slot} {rest : List Value} (hsz : Ls.size = c.maxLocals) (hd : decode c.code pc = .ok (.invokevirtual index, 3)) (hf : 1 ≤ R.frames) (W : Nat) (hW : (rest.map fun v => v.category).sum = W) (hlo : W + 14 ≤ R.locals) (cap : Nat) (hcap : z.toNatClampNeg ≤ cap) (hc : cells + 1 ≤ R.cells) (hsl : slots + cap ≤ R.slots)
    (K : ∀ T' h' b, b = h.size → Stand p l e R s m args below meth c T' locs (cells + 1) (slots + cap) → T'.heap = h' → Ext h h' → Arv Z h' b k ty z vs dv → Exa Z h' b ad → ownFin p e below F Q (T'.setTop (mkF m (pc + 3) Ls (.ref b :: rest)))) :
    ownFin p e below F Q (T.setTop (mkF m pc Ls (.ref a :: rest))) := by
  obtain ⟨T', h', X', e', Ex, A', E', st⟩ := cloneH X hx hZ hown w1 w2 w3 w4 w5 w6 eT A.arh E (g := mkF m pc Ls (.ref a :: rest)) rfl hsz rfl hd hf (W := W) (by show 2 * 0 + _ ≤ _; omega) hlo hcap hc hsl
  exact ownVia st (K T' h' _ rfl X' e' Ex A' E')
theorem ownCallP {own : String} {index : Nat} {y y2 : MethodName} {bytes : ByteArray} {maxL : Nat} {ret : Option FieldType} {rm : Room} {as' : Array Value} {Q' : Option Value → Heap → List Loc → Prop} {C' : String}
    (X : Stand p l e R s m args below meth c T locs cells slots) (hx : p.tables.exec = Jvm.exec) (hZ : Z.Warmed39 s.vm) (hown : s.vm.findClass own = some m.cls)
    (w1 : (Jvm.Cond.methodLink own index y).before a0 Z = true) (w2 : (Jvm.Cond.privateMethod y).before a0 Z = true) (w5 : (Jvm.Cond.selects y2.cls y2 y2).before a0 Z = true) (hc2 : y2.cls = y.cls) (w7 : (Jvm.Cond.instanceMethod y).before a0 Z = true) (w3 : (Jvm.Cond.initialized y.cls).before a0 Z = true) (w4 : (Jvm.Cond.code y bytes maxL ret).before a0 Z = true)
    (hy : y.cls ≠ "java/lang/invoke/MethodHandle" ∧ y.cls ≠ "java/lang/invoke/VarHandle") (eT : T.heap = h) {a : Addr} (E : Exa Z h a C') (hM : ownMet l Z y bytes maxL ret [] rm as' h Q')
    {pc : Nat} {Ls : Array Slot} {st : List Value} (hsz : Ls.size = c.maxLocals) (argsL rest : List Value) (hlen : ∀ sig, parseMethodDescriptor y.desc = some sig → argsL.length = sig.parameters.length)
    (hst : st = argsL.reverse ++ .ref a :: rest) (has : (Value.ref a :: argsL).toArray = as') (W : Nat) (hW : (rest.map fun v => v.category).sum = W) (hd : decode c.code pc = .ok (.invokevirtual index, 3))
    (hfr : rm.frames + 1 ≤ R.frames) (hlo : W + (maxL + 11) + rm.locals ≤ R.locals) (hce : cells + rm.cells ≤ R.cells) (hsl : slots + rm.slots ≤ R.slots)
    (K : ∀ v T' L', Stand p l e R s m args below meth c T' (locs ++ L') (cells + rm.cells) (slots + rm.slots) → Q' v T'.heap L' → ownFin p e below F Q (T'.setTop (mkF m (pc + 3) Ls (v.toList ++ rest)))) :
    ownFin p e below F Q (T.setTop (mkF m pc Ls st)) := by
  have hpriv : s.PrivateAt y := Cond.privateMethod_at (mvP hZ w2 (args := #[]))
  have hsel2 : (Jvm.Cond.selects y2.cls y2 y2).before args s = true := mvT hZ w5
  obtain ⟨c2, r2, m2, q1, q2, q3, q4, kP, hkP, hkPi⟩ := Cond.selects_spec hsel2
  have hf2 := findClass_of_methodNamed q3
  rw [hc2] at hf2
  have hsel : (Jvm.Cond.selects y.cls y y).before args s = true := selects_self_of_private hf2 hkP hkPi hpriv (mvT hZ w7) hy
  obtain ⟨cq, qc1, qc2⟩ := E.cell
  obtain ⟨v, _, ⟨T2, L2, k2, n2⟩, -, X2, ⟨Lc2, hQ2, l2, y2', z2⟩, st2⟩ := X.privateBack hx (y := y) hown (mvT hZ w1) (mvT hZ w7) hsel hpriv (mvT hZ w4) hy (backOf (W := W) hM hZ w4 w3 hfr hlo) (g := mkF m pc Ls st) rfl hsz (Steps.refl _) (a := a) (by rw [eT]; exact qc1) qc2 (argsL := argsL) (rest := rest) hlen hst (by show 2 * 0 + _ ≤ _; omega) hd (fun _ _ => ⟨has, eT, hce, hsl⟩)
  dsimp only [Pt.U, Pt.locs, Pt.cells, Pt.slots] at X2 l2 y2' z2 st2 hQ2
  subst l2 y2' z2
  exact ownVia (fun _ k => st2.trans k) (K v T2 Lc2 X2 hQ2)
theorem ownCast {own K' : String} {index : Nat} {a : Addr} (X : Stand p l e R s m args below meth c T locs cells slots) (hx : p.tables.exec = Jvm.exec) (hZ : Z.Warmed39 s.vm) (hown : s.vm.findClass own = some m.cls) (w : (Jvm.Cond.classLink own index K').before a0 Z = true) (eT : T.heap = h) (FI : Ins Z h a K' true) {pc : Nat} {Ls : Array Slot} {rest : List Value} (hd : decode c.code pc = .ok (.checkcast index, 3))
    (K : ∀ T', Stand p l e R s m args below meth c T' locs cells slots → T'.heap = h → ownFin p e below F Q (T'.setTop (mkF m (pc + 3) Ls (.ref a :: rest)))) : ownFin p e below F Q (T.setTop (mkF m pc Ls (.ref a :: rest))) := by
  obtain ⟨T', X', e', st⟩ := castY X hx hZ hown w eT FI (g := mkF m pc Ls (.ref a :: rest)) rfl rfl hd
  exact ownVia st (K T' X' e')
theorem own_clamp {j : Int32} {n : Nat} (h : j.toInt = (n : Int)) : j.toNatClampNeg = n := by
  show j.toInt.toNat = n
  rw [h]; rfl
theorem own_nneg {j : Int32} {n : Nat} (h : j.toInt = (n : Int)) : ¬ j < 0 := fun q => by
  have := Int32.lt_iff_toInt_lt.mp q
  have k0 : (0 : Int32).toInt = 0 := by decide
  omega
theorem ownCopy {own : String} {index : Nat} {a b : Addr} {k k' : ClassId} {ty : FieldType} {z z' sp dp nn : Int32} {vs vd : List Value} {dv dd : Value} {n0 : Nat} (X : Stand p l e R s m args below meth c T locs cells slots) (hx : p.tables.exec = Jvm.exec) (hZ : Z.Warmed39 s.vm) (hown : s.vm.findClass own = some m.cls)
    (w1 : (Jvm.Cond.methodLink own index Jvm.Stand.acN).before a0 Z = true) (w2 : (Jvm.Cond.native Jvm.Stand.acN).before a0 Z = true) (w3 : (Jvm.Cond.static Jvm.Stand.acN).before a0 Z = true) (w4 : (Jvm.Cond.initialized "java/lang/System").before a0 Z = true) (eT : T.heap = h)
    (A : Arv Z h a k ty z vs dv) (B : Arv Z h b k' ty z' vd dd) (hty : refKind ty = false) (i j n lz lz' : Nat) (hi : sp.toInt = (i : Int)) (hj : dp.toInt = (j : Int)) (hn : nn.toInt = (n : Int)) (hz : z.toInt = (lz : Int)) (hz' : z'.toInt = (lz' : Int)) (h4 : i + n ≤ lz) (h5 : j + n ≤ lz') (hl : j + n ≤ vd.length) (N : Fr n0 locs) (ge : n0 ≤ b)
    {pc : Nat} {Ls : Array Slot} {rest : List Value} (hsz : Ls.size = c.maxLocals) (hd : decode c.code pc = .ok (.invokestatic index, 3)) (hf : 1 ≤ R.frames) (W : Nat) (hW : (rest.map fun v => v.category).sum = W) (hlo : W + (nativeFrameWords "java/lang/System" "arraycopy" 5 + 11) ≤ R.locals)
    (K : ∀ T' h' L', Stand p l e R s m args below meth c T' L' cells slots → T'.heap = h' → Fr n0 L' → Keep h h' [b] → Arv Z h' b k' ty z' (vd.take j ++ ((List.range n).map fun x => vs.getD (i + x) dv) ++ vd.drop (j + n)) dd → ownFin p e below F Q (T'.setTop (mkF m (pc + 3) Ls rest))) :
    ownFin p e below F Q (T.setTop (mkF m pc Ls (.int nn :: .int dp :: .ref b :: .int sp :: .ref a :: rest))) := by
  have e1 := own_clamp hi
  have e2 := own_clamp hj
  have e3 := own_clamp hn
  have e4 := own_clamp hz
  have e5 := own_clamp hz'
  obtain ⟨T', h', L', X', e', N', K', B', st⟩ := cpA X hx hZ hown w1 w2 w3 w4 eT A B (Or.inl ⟨rfl, hty⟩) (own_nneg hi) (own_nneg hj) (own_nneg hn) (by omega) (by omega) rfl (by omega) N ge (g := mkF m pc Ls (.int nn :: .int dp :: .ref b :: .int sp :: .ref a :: rest)) rfl hsz rfl hd hf (W := W) (by show 2 * 0 + _ ≤ _; omega) hlo
  rw [e1, e2, e3] at B'
  exact ownVia st (K T' h' L' X' e' N' K' B')
theorem own_lti {a b : Int32} {x y : Int} (ha : a.toInt = x) (hb : b.toInt = y) : a < b ↔ x < y := by rw [Int32.lt_iff_toInt_lt, ha, hb]
theorem own_sub {a b : Int32} {i j : Nat} (ha : a.toInt = (i : Int)) (hb : b.toInt = (j : Int)) (h : j ≤ i) : (a - b).toInt = ((i - j : Nat) : Int) := by
  have h1 := c_isub a b
  have h2 := rng32 (a - b)
  have h3 := rng32 a
  have h4 := rng32 b
  omega
theorem own_add {a b : Int32} {i j : Nat} (ha : a.toInt = (i : Int)) (hb : b.toInt = (j : Int)) (h : i + j < 2147483648) : (a + b).toInt = ((i + j : Nat) : Int) := by
  have h1 := c_iadd a b
  have h2 := rng32 (a + b)
  omega
theorem own_nlt {a b : Int32} {i j : Int} (ha : a.toInt = i) (hb : b.toInt = j) (h : j ≤ i) : ¬ a < b := fun q => by
  have := (own_lti ha hb).mp q
  omega
theorem own_enum {args : Array Value} {C n d K : String} (hx : (Jvm.Cond.exactly (.static C n d) K).value args s none s [] = some true) (wi : (Jvm.Cond.initialized C).before args s = true) (wl : (Jvm.Cond.laysStatic C n d).before args s = true) :
    ∃ a, (Term.static C n d).eval args s none [] s = some (.ref a) ∧ Sta s s.heap C n d (.ref a) ∧ Exa s s.heap a K := by
  obtain ⟨a, ev⟩ := exa_v hx
  exact ⟨a, ev, Sta.start ev (Or.inr ⟨wi, wl⟩), Exa.start ev hx⟩
theorem own_eqv {args : Array Value} {t : Term} {k : Int32} (hf : (Jvm.Cond.eq t (.int k)).value args s none s [] = some true) : t.eval args s none [] s = some (.int k) := by
  cases hv : t.eval args s none [] s with
  | none => simp [Cond.value, hv] at hf
  | some v =>
    cases v <;> simp [Cond.value, hv, Term.eval] at hf
    rw [hf]
theorem own_efld {args : Array Value} {t : Term} {a : Addr} {C n d : String} {k : Int32} (ev : t.eval args s none [] s = some (.ref a)) (hf : (Jvm.Cond.eq (.field t C n d) (.int k)).value args s none s [] = some true) : Fld s s.heap a C n d (.int k) :=
  Fld.start ((fld_at ev).symm.trans (own_eqv hf))
theorem own_iff_f {A B P : Prop} (hA : ¬ A) (h : P ↔ A ∨ B) : P ↔ B := by simpa [hA] using h
theorem own_iff_t {A B P : Prop} (hA : A) (h : P ↔ A ∨ B) : P := h.mpr (Or.inl hA)
theorem own_ref_ne {a b : Addr} (h : a ≠ b) : ¬ (Value.ref a) = .ref b := fun q => h (by cases q; rfl)
theorem own_sz {n0 : Nat} {h' : Heap} (q : n0 ≤ h.size) (E : Ext h h') : n0 ≤ h'.size := Nat.le_trans q E.1
theorem own_szW {n0 : Nat} {h' : Heap} {a : Addr} {sl : Nat} {v : Value} (q : n0 ≤ h.size) (W : Wr h h' a sl v) : n0 ≤ h'.size := by rw [W.size]; exact q
theorem own_eqi {a b : Int32} {x y : Int} (ha : a.toInt = x) (hb : b.toInt = y) : a = b ↔ x = y := by rw [← Int32.toInt_inj, ha, hb]
theorem own_ltl {a b : Int64} {x y : Int} (ha : a.toInt = x) (hb : b.toInt = y) : a < b ↔ x < y := by rw [Int64.lt_iff_toInt_lt, ha, hb]
theorem own_eql {a b : Int64} {x y : Int} (ha : a.toInt = x) (hb : b.toInt = y) : a = b ↔ x = y := by rw [← Int64.toInt_inj, ha, hb]
theorem own_getD_map {α β : Type} (f : α → β) (d : α) (xs : List α) (n : Nat) : (xs.map f).getD n (f d) = f (xs.getD n d) := by
  simp only [List.getD_eq_getElem?_getD, List.getElem?_map]
  cases xs[n]? <;> rfl
theorem own_idx {j z : Int32} {zi : Int} (hz : z.toInt = zi) (h1 : 0 ≤ j.toInt) (h2 : j.toInt < zi) : ¬ j < 0 ∧ j < z := ⟨fun q => by have := (own_lti rfl (by decide : (0 : Int32).toInt = 0)).mp q; omega, Int32.lt_iff_toInt_lt.mpr (by rw [hz]; exact h2)⟩
end Own
def own_u (x : Int64) (k : Int32) : Int64 := ((x.toUInt64 >>> (k &&& 0x3f).toInt64.toUInt64).toInt64)
theorem own_u_bv (x : Int64) (q : Int32) (k : Nat) (hk : q.toBitVec.toNat % 64 = k) : (own_u x q).toBitVec = x.toBitVec >>> k := by
  have h5 := (sm64 q k hk).2
  show x.toBitVec >>> ((q &&& 0x3f).toInt64.toBitVec % 64) = _
  rw [BitVec.ushiftRight_eq']
  congr 1
  rw [BitVec.toNat_umod, (sm64 q k hk).1, BitVec.toNat_ofNat]
  show k % 2 ^ 64 % 64 = k
  omega
theorem own_xs {x : BitVec 64} {k : Nat} (h : 64 ≤ k + k + k) : (x ^^^ x >>> k) ^^^ (x ^^^ x >>> k) >>> k ^^^ (x ^^^ x >>> k) >>> (k + k) = x := by
  apply BitVec.eq_of_getLsbD_eq
  intro i hi
  simp only [BitVec.getLsbD_xor, BitVec.getLsbD_ushiftRight]
  have e1 : k + (k + i) = k + k + i := by omega
  have e3 : x.getLsbD (k + (k + k + i)) = false := BitVec.getLsbD_of_ge _ _ (by omega)
  rw [e1, e3]
  cases x.getLsbD i <;> cases x.getLsbD (k + i) <;> cases x.getLsbD (k + k + i) <;> rfl
theorem own_xsI (x : Int64) (q r : Int32) (k : Nat) (hq : q.toBitVec.toNat % 64 = k) (hr : r.toBitVec.toNat % 64 = k + k) (h : 64 ≤ k + k + k) : ((x ^^^ own_u x q) ^^^ own_u (x ^^^ own_u x q) q) ^^^ own_u (x ^^^ own_u x q) r = x := by
  apply Int64.toBitVec_inj.mp
  rw [Int64.toBitVec_xor, Int64.toBitVec_xor, own_u_bv _ q k hq, own_u_bv _ r (k + k) hr, Int64.toBitVec_xor, own_u_bv _ q k hq]
  exact own_xs h
def own_it (m x : Int64) : Int64 := x * (2 - m * x)
def own_inv (m : Int64) : Int64 := own_it m (own_it m (own_it m (own_it m (own_it m (own_it m m)))))
abbrev own_A : Int64 := -4658895280553007687
abbrev own_B : Int64 := -7723592293110705685
abbrev own_G : Int64 := -7046029254386353131
def own_m1 (z : Int64) : Int64 := (z ^^^ own_u z 30) * (-4658895280553007687 : Int64)
def own_m2 (z : Int64) : Int64 := (z ^^^ own_u z 27) * (-7723592293110705685 : Int64)
def own_mix (z : Int64) : Int64 := own_m2 (own_m1 z) ^^^ own_u (own_m2 (own_m1 z)) 31
def own_x3 (z : Int64) (k r : Int32) : Int64 := (z ^^^ own_u z k) ^^^ own_u z r
def own_unmix (o : Int64) : Int64 := own_x3 (own_x3 (own_x3 o 31 62 * own_inv (-7723592293110705685 : Int64)) 27 54 * own_inv (-4658895280553007687 : Int64)) 30 60
theorem own_iA : (-4658895280553007687 : Int64) * own_inv (-4658895280553007687 : Int64) = 1 := by decide +kernel
theorem own_iB : (-7723592293110705685 : Int64) * own_inv (-7723592293110705685 : Int64) = 1 := by decide +kernel
theorem own_um (z : Int64) : own_unmix (own_mix z) = z := by
  have h1 : own_x3 (own_mix z) 31 62 = own_m2 (own_m1 z) := own_xsI (own_m2 (own_m1 z)) 31 62 31 (by decide) (by decide) (by decide)
  have h2 : own_m2 (own_m1 z) * own_inv (-7723592293110705685 : Int64) = own_m1 z ^^^ own_u (own_m1 z) 27 := by
    unfold own_m2
    rw [Int64.mul_assoc, own_iB, Int64.mul_one]
  have h3 : own_x3 (own_m1 z ^^^ own_u (own_m1 z) 27) 27 54 = own_m1 z := own_xsI (own_m1 z) 27 54 27 (by decide) (by decide) (by decide)
  have h4 : own_m1 z * own_inv (-4658895280553007687 : Int64) = z ^^^ own_u z 30 := by
    unfold own_m1
    rw [Int64.mul_assoc, own_iA, Int64.mul_one]
  have h5 : own_x3 (z ^^^ own_u z 30) 30 60 = z := own_xsI z 30 60 30 (by decide) (by decide) (by decide)
  unfold own_unmix
  rw [h1, h2, h3, h4, h5]
theorem own_um2 (q : Int64) : own_unmix (own_mix ((q + (-7046029254386353131 : Int64)) + (-7046029254386353131 : Int64))) = q + ((2 : Int64) * (-7046029254386353131 : Int64)) := by
  rw [own_um, Int64.add_assoc]
  congr 1
theorem own_um3 (q : Int64) : own_unmix (own_mix (((q + (-7046029254386353131 : Int64)) + (-7046029254386353131 : Int64)) + (-7046029254386353131 : Int64))) = q + ((3 : Int64) * (-7046029254386353131 : Int64)) := by
  rw [own_um, Int64.add_assoc, Int64.add_assoc]
  congr 1
theorem d1_0 : decode prog_24_method_1_code 0 = .ok (.aload_n 0, 1) := by decide +kernel
theorem d1_1 : decode prog_24_method_1_code 1 = .ok (.invokespecial 1, 3) := by decide +kernel
theorem d1_4 : decode prog_24_method_1_code 4 = .ok (.aload_n 0, 1) := by decide +kernel
theorem d1_5 : decode prog_24_method_1_code 5 = .ok (.lload_n 1, 1) := by decide +kernel
theorem d1_6 : decode prog_24_method_1_code 6 = .ok (.putfield 7, 3) := by decide +kernel
theorem d1_9 : decode prog_24_method_1_code 9 = .ok (.return_, 1) := by decide +kernel
theorem own_pn0 : plainName "com/example/oubliette/oubliette/engine/SeededRandom" = true := by first | (simp [plainName, overriddenIn]; done) | decide +kernel
theorem own_ef1 (m : MethodId) (a1 : Addr) (q1 : Int64) : entryFrame m #[(.ref a1), (.long q1)] 3 = mkF m 0 #[.val (.ref a1), .val (.long q1), .second] [] := by first | (simp [entryFrame, mkF, argsToLocals, Value.category]; done) | rfl
def Q_own_init (Z : State) (a1 : Addr) (q1 : Int64) (h0 : Heap) (n0 : Nat)  : Option Value → Heap → List Loc → Prop := fun v h L => v = none ∧ Fr n0 L ∧ Keep h0 h [a1] ∧ Fld Z h a1 "com/example/oubliette/oubliette/engine/SeededRandom" "state" "J" (.long q1)
set_option maxRecDepth 65536 in
set_option maxHeartbeats 40000000 in
theorem own_init (l : Launch) (Z : State) (a0 : Array Value) (hw : ∀ d ∈ tables_1, d.before a0 Z = true)  (a1 : Addr) (q1 : Int64) (h0 : Heap) (n0 : Nat)  (Z0 : n0 ≤ h0.size) (F_a1 : Fld Z h0 a1 "com/example/oubliette/oubliette/engine/SeededRandom" "state" "J" (.long (0 : Int64))) (E_a1 : Exa Z h0 a1 "com/example/oubliette/oubliette/engine/SeededRandom") (ge_a1 : n0 ≤ a1) :
    ownMet l Z (⟨"com/example/oubliette/oubliette/engine/SeededRandom", "<init>", "(J)V"⟩ : MethodName) prog_24_method_1_code 3 none [] ({ frames := 1, cells := 0, slots := 0, locals := 12 } : Room) #[(.ref a1), (.long q1)] h0 (Q_own_init Z a1 q1 h0 n0 ) := by
  refine ownBody (plainFor_of_name own_pn0) ?_
  intro p e s m below meth c T0 hx hby hml hret hlk hZ hown hnm X0 e0
  have N0 : Fr n0 [] := Fr.nil n0
  refine ownVia (fun _ k => castTop (own_ef1 m a1 q1) k) ?_
  show ownFin _ _ _ _ _ (T0.setTop (mkF m 0 #[.val (.ref a1), .val (.long q1), .second] []))
  have K0 : Keep h0 h0 [a1] := Keep.refl _ _
  refine ownVia (fun _ k => XS.aloadN X0.here hx rfl (hb hby d1_0) rfl rfl k) ?_
  show ownFin _ _ _ _ _ (T0.setTop (mkF m 1 #[.val (.ref a1), .val (.long q1), .second] [(.ref a1)]))
  obtain ⟨T2, X2, e2, st2⟩ := initO X0 hx hZ hown (hw _ (List.mem_of_getElem? (i := 7) rfl)) (hw _ (List.mem_of_getElem? (i := 8) rfl)) (hw _ (List.mem_of_getElem? (i := 9) rfl)) e0 (g := (mkF m 1 #[.val (.ref a1), .val (.long q1), .second] [(.ref a1)])) rfl (by rw [hml]; rfl) rfl (hb hby d1_1) (by decide) (W := 0) (by show 2 * 0 + _ ≤ _; exact Nat.le_of_eq rfl) (by decide)
  refine ownVia st2 ?_
  show ownFin _ _ _ _ _ (T2.setTop (mkF m 4 #[.val (.ref a1), .val (.long q1), .second] []))
  refine ownVia (fun _ k => XS.aloadN X2.here hx rfl (hb hby d1_4) rfl rfl k) ?_
  show ownFin _ _ _ _ _ (T2.setTop (mkF m 5 #[.val (.ref a1), .val (.long q1), .second] [(.ref a1)]))
  refine ownVia (fun _ k => XS.lloadN X2.here hx rfl (hb hby d1_5) rfl k) ?_
  show ownFin _ _ _ _ _ (T2.setTop (mkF m 6 #[.val (.ref a1), .val (.long q1), .second] [(.long q1), (.ref a1)]))
  obtain ⟨T3, h3, X3, e3, W3, st3⟩ := putF X2 hx hZ hown (host := "") (Or.inl (hw _ (List.mem_of_getElem? (i := 10) rfl))) Via.refl e2 F_a1 E_a1 (Or.inl (hw _ (List.mem_of_getElem? (i := 11) rfl))) (hw _ (List.mem_of_getElem? (i := 2) rfl)) (ty := .long) (by decide) rfl rfl (g := (mkF m 6 #[.val (.ref a1), .val (.long q1), .second] [(.long q1), (.ref a1)])) rfl rfl (hb hby d1_6)
  have N3 := Fr.snoc X3 N0 ge_a1
  have F_a1 := F_a1.same W3
  have E_a1 := E_a1.wr W3
  have K0 := K0.wr W3 (Or.inl (List.mem_of_getElem? (i := 0) rfl))
  have Z0 := own_szW Z0 W3
  refine ownVia st3 ?_
  show ownFin _ _ _ _ _ (T3.setTop (mkF m 9 #[.val (.ref a1), .val (.long q1), .second] []))
  refine ownRetV X3 hx hlk hret (hb hby d1_9) (by decide) (by decide) ?_
  show (Q_own_init Z a1 q1 h0 n0 ) none T3.heap _
  rw [e3]
  exact ⟨rfl, N3, K0, F_a1⟩
theorem d3_0 : decode prog_24_method_2_code 0 = .ok (.aload_n 0, 1) := by decide +kernel
theorem d3_1 : decode prog_24_method_2_code 1 = .ok (.dup, 1) := by decide +kernel
theorem d3_2 : decode prog_24_method_2_code 2 = .ok (.getfield 7, 3) := by decide +kernel
theorem d3_5 : decode prog_24_method_2_code 5 = .ok (.ldc2_w 13, 3) := by decide +kernel
theorem d3_8 : decode prog_24_method_2_code 8 = .ok (.ladd, 1) := by decide +kernel
theorem d3_9 : decode prog_24_method_2_code 9 = .ok (.putfield 7, 3) := by decide +kernel
theorem d3_12 : decode prog_24_method_2_code 12 = .ok (.aload_n 0, 1) := by decide +kernel
theorem d3_13 : decode prog_24_method_2_code 13 = .ok (.getfield 7, 3) := by decide +kernel
theorem d3_16 : decode prog_24_method_2_code 16 = .ok (.lstore_n 1, 1) := by decide +kernel
theorem d3_17 : decode prog_24_method_2_code 17 = .ok (.lload_n 1, 1) := by decide +kernel
theorem d3_18 : decode prog_24_method_2_code 18 = .ok (.lload_n 1, 1) := by decide +kernel
theorem d3_19 : decode prog_24_method_2_code 19 = .ok (.bipush 30, 2) := by decide +kernel
theorem d3_21 : decode prog_24_method_2_code 21 = .ok (.lushr, 1) := by decide +kernel
theorem d3_22 : decode prog_24_method_2_code 22 = .ok (.lxor, 1) := by decide +kernel
theorem d3_23 : decode prog_24_method_2_code 23 = .ok (.ldc2_w 15, 3) := by decide +kernel
theorem d3_26 : decode prog_24_method_2_code 26 = .ok (.lmul, 1) := by decide +kernel
theorem d3_27 : decode prog_24_method_2_code 27 = .ok (.lstore_n 1, 1) := by decide +kernel
theorem d3_28 : decode prog_24_method_2_code 28 = .ok (.lload_n 1, 1) := by decide +kernel
theorem d3_29 : decode prog_24_method_2_code 29 = .ok (.lload_n 1, 1) := by decide +kernel
theorem d3_30 : decode prog_24_method_2_code 30 = .ok (.bipush 27, 2) := by decide +kernel
theorem d3_32 : decode prog_24_method_2_code 32 = .ok (.lushr, 1) := by decide +kernel
theorem d3_33 : decode prog_24_method_2_code 33 = .ok (.lxor, 1) := by decide +kernel
theorem d3_34 : decode prog_24_method_2_code 34 = .ok (.ldc2_w 17, 3) := by decide +kernel
theorem d3_37 : decode prog_24_method_2_code 37 = .ok (.lmul, 1) := by decide +kernel
theorem d3_38 : decode prog_24_method_2_code 38 = .ok (.lstore_n 1, 1) := by decide +kernel
theorem d3_39 : decode prog_24_method_2_code 39 = .ok (.lload_n 1, 1) := by decide +kernel
theorem d3_40 : decode prog_24_method_2_code 40 = .ok (.lload_n 1, 1) := by decide +kernel
theorem d3_41 : decode prog_24_method_2_code 41 = .ok (.bipush 31, 2) := by decide +kernel
theorem d3_43 : decode prog_24_method_2_code 43 = .ok (.lushr, 1) := by decide +kernel
theorem d3_44 : decode prog_24_method_2_code 44 = .ok (.lxor, 1) := by decide +kernel
theorem d3_45 : decode prog_24_method_2_code 45 = .ok (.lreturn, 1) := by decide +kernel
theorem own_ef4 (m : MethodId) (a1 : Addr) : entryFrame m #[(.ref a1)] 3 = mkF m 0 #[.val (.ref a1), .unset, .unset] [] := by first | (simp [entryFrame, mkF, argsToLocals, Value.category]; done) | rfl
def Q_own_next (Z : State) (a1 : Addr) (h0 : Heap) (n0 : Nat) (q1 : Int64) : Option Value → Heap → List Loc → Prop := fun v h L => v = some (.long (own_mix (q1 + (-7046029254386353131 : Int64)))) ∧ Fr n0 L ∧ Keep h0 h [a1] ∧ Fld Z h a1 "com/example/oubliette/oubliette/engine/SeededRandom" "state" "J" (.long (q1 + (-7046029254386353131 : Int64)))
set_option maxRecDepth 65536 in
set_option maxHeartbeats 40000000 in
theorem own_next (l : Launch) (Z : State) (a0 : Array Value) (hw : ∀ d ∈ tables_1, d.before a0 Z = true)  (a1 : Addr) (h0 : Heap) (n0 : Nat) (q1 : Int64) (Z0 : n0 ≤ h0.size) (F_a1 : Fld Z h0 a1 "com/example/oubliette/oubliette/engine/SeededRandom" "state" "J" (.long q1)) (E_a1 : Exa Z h0 a1 "com/example/oubliette/oubliette/engine/SeededRandom") (ge_a1 : n0 ≤ a1) :
    ownMet l Z (⟨"com/example/oubliette/oubliette/engine/SeededRandom", "nextLong", "()J"⟩ : MethodName) prog_24_method_2_code 3 (some .long) [] ({ frames := 0, cells := 0, slots := 0, locals := 0 } : Room) #[(.ref a1)] h0 (Q_own_next Z a1 h0 n0 q1) := by
  refine ownBody (plainFor_of_name own_pn0) ?_
  intro p e s m below meth c T0 hx hby hml hret hlk hZ hown hnm X0 e0
  have N0 : Fr n0 [] := Fr.nil n0
  refine ownVia (fun _ k => castTop (own_ef4 m a1) k) ?_
  show ownFin _ _ _ _ _ (T0.setTop (mkF m 0 #[.val (.ref a1), .unset, .unset] []))
  have K0 : Keep h0 h0 [a1] := Keep.refl _ _
  refine ownVia (fun _ k => XS.aloadN X0.here hx rfl (hb hby d3_0) rfl rfl k) ?_
  show ownFin _ _ _ _ _ (T0.setTop (mkF m 1 #[.val (.ref a1), .unset, .unset] [(.ref a1)]))
  refine ownVia (fun _ k => XS.dup X0.here hx rfl (hb hby d3_1) rfl rfl k) ?_
  show ownFin _ _ _ _ _ (T0.setTop (mkF m 2 #[.val (.ref a1), .unset, .unset] [(.ref a1), (.ref a1)]))
  obtain ⟨T5, X5, e5, st5⟩ := getF X0 hx hZ hown (host := "") (Or.inl (hw _ (List.mem_of_getElem? (i := 10) rfl))) Via.refl e0 F_a1 (g := (mkF m 2 #[.val (.ref a1), .unset, .unset] [(.ref a1), (.ref a1)])) rfl rfl (hb hby d3_2)
  refine ownVia st5 ?_
  show ownFin _ _ _ _ _ (T5.setTop (mkF m 5 #[.val (.ref a1), .unset, .unset] [(.long q1), (.ref a1)]))
  refine ownVia (fun _ k => X5.ldc2Long hx hown (mvT hZ (hw _ (List.mem_of_getElem? (i := 17) rfl))) (g := (mkF m 5 #[.val (.ref a1), .unset, .unset] [(.long q1), (.ref a1)])) rfl (hb hby d3_5) _ k) ?_
  show ownFin _ _ _ _ _ (T5.setTop (mkF m 8 #[.val (.ref a1), .unset, .unset] [(.long (-7046029254386353131 : Int64)), (.long q1), (.ref a1)]))
  refine ownVia (fun _ k => XS.ladd X5.here hx rfl (hb hby d3_8) rfl k) ?_
  show ownFin _ _ _ _ _ (T5.setTop (mkF m 9 #[.val (.ref a1), .unset, .unset] [(.long (q1 + (-7046029254386353131 : Int64))), (.ref a1)]))
  obtain ⟨T6, h6, X6, e6, W6, st6⟩ := putF X5 hx hZ hown (host := "") (Or.inl (hw _ (List.mem_of_getElem? (i := 10) rfl))) Via.refl e5 F_a1 E_a1 (Or.inl (hw _ (List.mem_of_getElem? (i := 11) rfl))) (hw _ (List.mem_of_getElem? (i := 2) rfl)) (ty := .long) (by decide) rfl rfl (g := (mkF m 9 #[.val (.ref a1), .unset, .unset] [(.long (q1 + (-7046029254386353131 : Int64))), (.ref a1)])) rfl rfl (hb hby d3_9)
  have N6 := Fr.snoc X6 N0 ge_a1
  have F_a1 := F_a1.same W6
  have E_a1 := E_a1.wr W6
  have K0 := K0.wr W6 (Or.inl (List.mem_of_getElem? (i := 0) rfl))
  have Z0 := own_szW Z0 W6
  refine ownVia st6 ?_
  show ownFin _ _ _ _ _ (T6.setTop (mkF m 12 #[.val (.ref a1), .unset, .unset] []))
  refine ownVia (fun _ k => XS.aloadN X6.here hx rfl (hb hby d3_12) rfl rfl k) ?_
  show ownFin _ _ _ _ _ (T6.setTop (mkF m 13 #[.val (.ref a1), .unset, .unset] [(.ref a1)]))
  obtain ⟨T7, X7, e7, st7⟩ := getF X6 hx hZ hown (host := "") (Or.inl (hw _ (List.mem_of_getElem? (i := 10) rfl))) Via.refl e6 F_a1 (g := (mkF m 13 #[.val (.ref a1), .unset, .unset] [(.ref a1)])) rfl rfl (hb hby d3_13)
  refine ownVia st7 ?_
  show ownFin _ _ _ _ _ (T7.setTop (mkF m 16 #[.val (.ref a1), .unset, .unset] [(.long (q1 + (-7046029254386353131 : Int64)))]))
  refine ownVia (fun _ k => XS.lstoreN X7.here hx rfl (hb hby d3_16) rfl (l' := #[.val (.ref a1), .val (.long (q1 + (-7046029254386353131 : Int64))), .second]) rfl k) ?_
  show ownFin _ _ _ _ _ (T7.setTop (mkF m 17 #[.val (.ref a1), .val (.long (q1 + (-7046029254386353131 : Int64))), .second] []))
  refine ownVia (fun _ k => XS.lloadN X7.here hx rfl (hb hby d3_17) rfl k) ?_
  show ownFin _ _ _ _ _ (T7.setTop (mkF m 18 #[.val (.ref a1), .val (.long (q1 + (-7046029254386353131 : Int64))), .second] [(.long (q1 + (-7046029254386353131 : Int64)))]))
  refine ownVia (fun _ k => XS.lloadN X7.here hx rfl (hb hby d3_18) rfl k) ?_
  show ownFin _ _ _ _ _ (T7.setTop (mkF m 19 #[.val (.ref a1), .val (.long (q1 + (-7046029254386353131 : Int64))), .second] [(.long (q1 + (-7046029254386353131 : Int64))), (.long (q1 + (-7046029254386353131 : Int64)))]))
  refine ownVia (fun _ k => XS.bipush X7.here hx rfl (hb hby d3_19) k) ?_
  show ownFin _ _ _ _ _ (T7.setTop (mkF m 21 #[.val (.ref a1), .val (.long (q1 + (-7046029254386353131 : Int64))), .second] [(.int (30 : Int32)), (.long (q1 + (-7046029254386353131 : Int64))), (.long (q1 + (-7046029254386353131 : Int64)))]))
  refine ownVia (fun _ k => XS.lushr X7.here hx rfl (hb hby d3_21) rfl k) ?_
  show ownFin _ _ _ _ _ (T7.setTop (mkF m 22 #[.val (.ref a1), .val (.long (q1 + (-7046029254386353131 : Int64))), .second] [(.long (((q1 + (-7046029254386353131 : Int64)).toUInt64 >>> ((30 : Int32) &&& 0x3f).toInt64.toUInt64).toInt64)), (.long (q1 + (-7046029254386353131 : Int64)))]))
  refine ownVia (fun _ k => XS.lxor X7.here hx rfl (hb hby d3_22) rfl k) ?_
  show ownFin _ _ _ _ _ (T7.setTop (mkF m 23 #[.val (.ref a1), .val (.long (q1 + (-7046029254386353131 : Int64))), .second] [(.long ((q1 + (-7046029254386353131 : Int64)) ^^^ (((q1 + (-7046029254386353131 : Int64)).toUInt64 >>> ((30 : Int32) &&& 0x3f).toInt64.toUInt64).toInt64)))]))
  refine ownVia (fun _ k => X7.ldc2Long hx hown (mvT hZ (hw _ (List.mem_of_getElem? (i := 18) rfl))) (g := (mkF m 23 #[.val (.ref a1), .val (.long (q1 + (-7046029254386353131 : Int64))), .second] [(.long ((q1 + (-7046029254386353131 : Int64)) ^^^ (((q1 + (-7046029254386353131 : Int64)).toUInt64 >>> ((30 : Int32) &&& 0x3f).toInt64.toUInt64).toInt64)))])) rfl (hb hby d3_23) _ k) ?_
  show ownFin _ _ _ _ _ (T7.setTop (mkF m 26 #[.val (.ref a1), .val (.long (q1 + (-7046029254386353131 : Int64))), .second] [(.long (-4658895280553007687 : Int64)), (.long ((q1 + (-7046029254386353131 : Int64)) ^^^ (((q1 + (-7046029254386353131 : Int64)).toUInt64 >>> ((30 : Int32) &&& 0x3f).toInt64.toUInt64).toInt64)))]))
  refine ownVia (fun _ k => XS.lmul X7.here hx rfl (hb hby d3_26) rfl k) ?_
  show ownFin _ _ _ _ _ (T7.setTop (mkF m 27 #[.val (.ref a1), .val (.long (q1 + (-7046029254386353131 : Int64))), .second] [(.long (((q1 + (-7046029254386353131 : Int64)) ^^^ (((q1 + (-7046029254386353131 : Int64)).toUInt64 >>> ((30 : Int32) &&& 0x3f).toInt64.toUInt64).toInt64)) * (-4658895280553007687 : Int64)))]))
  show ownFin _ _ _ _ _ (T7.setTop (mkF m 27 #[.val (.ref a1), .val (.long (q1 + (-7046029254386353131 : Int64))), .second] [(.long (own_m1 (q1 + (-7046029254386353131 : Int64))))]))
  refine ownVia (fun _ k => XS.lstoreN X7.here hx rfl (hb hby d3_27) rfl (l' := #[.val (.ref a1), .val (.long (own_m1 (q1 + (-7046029254386353131 : Int64)))), .second]) rfl k) ?_
  show ownFin _ _ _ _ _ (T7.setTop (mkF m 28 #[.val (.ref a1), .val (.long (own_m1 (q1 + (-7046029254386353131 : Int64)))), .second] []))
  refine ownVia (fun _ k => XS.lloadN X7.here hx rfl (hb hby d3_28) rfl k) ?_
  show ownFin _ _ _ _ _ (T7.setTop (mkF m 29 #[.val (.ref a1), .val (.long (own_m1 (q1 + (-7046029254386353131 : Int64)))), .second] [(.long (own_m1 (q1 + (-7046029254386353131 : Int64))))]))
  refine ownVia (fun _ k => XS.lloadN X7.here hx rfl (hb hby d3_29) rfl k) ?_
  show ownFin _ _ _ _ _ (T7.setTop (mkF m 30 #[.val (.ref a1), .val (.long (own_m1 (q1 + (-7046029254386353131 : Int64)))), .second] [(.long (own_m1 (q1 + (-7046029254386353131 : Int64)))), (.long (own_m1 (q1 + (-7046029254386353131 : Int64))))]))
  refine ownVia (fun _ k => XS.bipush X7.here hx rfl (hb hby d3_30) k) ?_
  show ownFin _ _ _ _ _ (T7.setTop (mkF m 32 #[.val (.ref a1), .val (.long (own_m1 (q1 + (-7046029254386353131 : Int64)))), .second] [(.int (27 : Int32)), (.long (own_m1 (q1 + (-7046029254386353131 : Int64)))), (.long (own_m1 (q1 + (-7046029254386353131 : Int64))))]))
  refine ownVia (fun _ k => XS.lushr X7.here hx rfl (hb hby d3_32) rfl k) ?_
  show ownFin _ _ _ _ _ (T7.setTop (mkF m 33 #[.val (.ref a1), .val (.long (own_m1 (q1 + (-7046029254386353131 : Int64)))), .second] [(.long (((own_m1 (q1 + (-7046029254386353131 : Int64))).toUInt64 >>> ((27 : Int32) &&& 0x3f).toInt64.toUInt64).toInt64)), (.long (own_m1 (q1 + (-7046029254386353131 : Int64))))]))
  refine ownVia (fun _ k => XS.lxor X7.here hx rfl (hb hby d3_33) rfl k) ?_
  show ownFin _ _ _ _ _ (T7.setTop (mkF m 34 #[.val (.ref a1), .val (.long (own_m1 (q1 + (-7046029254386353131 : Int64)))), .second] [(.long ((own_m1 (q1 + (-7046029254386353131 : Int64))) ^^^ (((own_m1 (q1 + (-7046029254386353131 : Int64))).toUInt64 >>> ((27 : Int32) &&& 0x3f).toInt64.toUInt64).toInt64)))]))
  refine ownVia (fun _ k => X7.ldc2Long hx hown (mvT hZ (hw _ (List.mem_of_getElem? (i := 19) rfl))) (g := (mkF m 34 #[.val (.ref a1), .val (.long (own_m1 (q1 + (-7046029254386353131 : Int64)))), .second] [(.long ((own_m1 (q1 + (-7046029254386353131 : Int64))) ^^^ (((own_m1 (q1 + (-7046029254386353131 : Int64))).toUInt64 >>> ((27 : Int32) &&& 0x3f).toInt64.toUInt64).toInt64)))])) rfl (hb hby d3_34) _ k) ?_
  show ownFin _ _ _ _ _ (T7.setTop (mkF m 37 #[.val (.ref a1), .val (.long (own_m1 (q1 + (-7046029254386353131 : Int64)))), .second] [(.long (-7723592293110705685 : Int64)), (.long ((own_m1 (q1 + (-7046029254386353131 : Int64))) ^^^ (((own_m1 (q1 + (-7046029254386353131 : Int64))).toUInt64 >>> ((27 : Int32) &&& 0x3f).toInt64.toUInt64).toInt64)))]))
  refine ownVia (fun _ k => XS.lmul X7.here hx rfl (hb hby d3_37) rfl k) ?_
  show ownFin _ _ _ _ _ (T7.setTop (mkF m 38 #[.val (.ref a1), .val (.long (own_m1 (q1 + (-7046029254386353131 : Int64)))), .second] [(.long (((own_m1 (q1 + (-7046029254386353131 : Int64))) ^^^ (((own_m1 (q1 + (-7046029254386353131 : Int64))).toUInt64 >>> ((27 : Int32) &&& 0x3f).toInt64.toUInt64).toInt64)) * (-7723592293110705685 : Int64)))]))
  show ownFin _ _ _ _ _ (T7.setTop (mkF m 38 #[.val (.ref a1), .val (.long (own_m1 (q1 + (-7046029254386353131 : Int64)))), .second] [(.long (own_m2 (own_m1 (q1 + (-7046029254386353131 : Int64)))))]))
  refine ownVia (fun _ k => XS.lstoreN X7.here hx rfl (hb hby d3_38) rfl (l' := #[.val (.ref a1), .val (.long (own_m2 (own_m1 (q1 + (-7046029254386353131 : Int64))))), .second]) rfl k) ?_
  show ownFin _ _ _ _ _ (T7.setTop (mkF m 39 #[.val (.ref a1), .val (.long (own_m2 (own_m1 (q1 + (-7046029254386353131 : Int64))))), .second] []))
  refine ownVia (fun _ k => XS.lloadN X7.here hx rfl (hb hby d3_39) rfl k) ?_
  show ownFin _ _ _ _ _ (T7.setTop (mkF m 40 #[.val (.ref a1), .val (.long (own_m2 (own_m1 (q1 + (-7046029254386353131 : Int64))))), .second] [(.long (own_m2 (own_m1 (q1 + (-7046029254386353131 : Int64)))))]))
  refine ownVia (fun _ k => XS.lloadN X7.here hx rfl (hb hby d3_40) rfl k) ?_
  show ownFin _ _ _ _ _ (T7.setTop (mkF m 41 #[.val (.ref a1), .val (.long (own_m2 (own_m1 (q1 + (-7046029254386353131 : Int64))))), .second] [(.long (own_m2 (own_m1 (q1 + (-7046029254386353131 : Int64))))), (.long (own_m2 (own_m1 (q1 + (-7046029254386353131 : Int64)))))]))
  refine ownVia (fun _ k => XS.bipush X7.here hx rfl (hb hby d3_41) k) ?_
  show ownFin _ _ _ _ _ (T7.setTop (mkF m 43 #[.val (.ref a1), .val (.long (own_m2 (own_m1 (q1 + (-7046029254386353131 : Int64))))), .second] [(.int (31 : Int32)), (.long (own_m2 (own_m1 (q1 + (-7046029254386353131 : Int64))))), (.long (own_m2 (own_m1 (q1 + (-7046029254386353131 : Int64)))))]))
  refine ownVia (fun _ k => XS.lushr X7.here hx rfl (hb hby d3_43) rfl k) ?_
  show ownFin _ _ _ _ _ (T7.setTop (mkF m 44 #[.val (.ref a1), .val (.long (own_m2 (own_m1 (q1 + (-7046029254386353131 : Int64))))), .second] [(.long (((own_m2 (own_m1 (q1 + (-7046029254386353131 : Int64)))).toUInt64 >>> ((31 : Int32) &&& 0x3f).toInt64.toUInt64).toInt64)), (.long (own_m2 (own_m1 (q1 + (-7046029254386353131 : Int64)))))]))
  refine ownVia (fun _ k => XS.lxor X7.here hx rfl (hb hby d3_44) rfl k) ?_
  show ownFin _ _ _ _ _ (T7.setTop (mkF m 45 #[.val (.ref a1), .val (.long (own_m2 (own_m1 (q1 + (-7046029254386353131 : Int64))))), .second] [(.long ((own_m2 (own_m1 (q1 + (-7046029254386353131 : Int64)))) ^^^ (((own_m2 (own_m1 (q1 + (-7046029254386353131 : Int64)))).toUInt64 >>> ((31 : Int32) &&& 0x3f).toInt64.toUInt64).toInt64)))]))
  show ownFin _ _ _ _ _ (T7.setTop (mkF m 45 #[.val (.ref a1), .val (.long (own_m2 (own_m1 (q1 + (-7046029254386353131 : Int64))))), .second] [(.long (own_mix (q1 + (-7046029254386353131 : Int64))))]))
  refine ownRetJ X7 hx hlk hret (hb hby d3_45) (by decide) (by decide) ?_
  show (Q_own_next Z a1 h0 n0 q1) (some (.long (own_mix (q1 + (-7046029254386353131 : Int64))))) T7.heap _
  rw [e7]
  exact ⟨rfl, N6, K0, F_a1⟩
theorem d5_0 : decode method_2_code 0 = .ok (.lload_n 0, 1) := by decide +kernel
theorem d5_1 : decode method_2_code 1 = .ok (.lstore_n 2, 1) := by decide +kernel
theorem d5_2 : decode method_2_code 2 = .ok (.lload_n 2, 1) := by decide +kernel
theorem d5_3 : decode method_2_code 3 = .ok (.ldc2_w 7, 3) := by decide +kernel
theorem d5_6 : decode method_2_code 6 = .ok (.lload_n 0, 1) := by decide +kernel
theorem d5_7 : decode method_2_code 7 = .ok (.lload_n 2, 1) := by decide +kernel
theorem d5_8 : decode method_2_code 8 = .ok (.lmul, 1) := by decide +kernel
theorem d5_9 : decode method_2_code 9 = .ok (.lsub, 1) := by decide +kernel
theorem d5_10 : decode method_2_code 10 = .ok (.lmul, 1) := by decide +kernel
theorem d5_11 : decode method_2_code 11 = .ok (.lstore_n 2, 1) := by decide +kernel
theorem d5_12 : decode method_2_code 12 = .ok (.lload_n 2, 1) := by decide +kernel
theorem d5_13 : decode method_2_code 13 = .ok (.ldc2_w 7, 3) := by decide +kernel
theorem d5_16 : decode method_2_code 16 = .ok (.lload_n 0, 1) := by decide +kernel
theorem d5_17 : decode method_2_code 17 = .ok (.lload_n 2, 1) := by decide +kernel
theorem d5_18 : decode method_2_code 18 = .ok (.lmul, 1) := by decide +kernel
theorem d5_19 : decode method_2_code 19 = .ok (.lsub, 1) := by decide +kernel
theorem d5_20 : decode method_2_code 20 = .ok (.lmul, 1) := by decide +kernel
theorem d5_21 : decode method_2_code 21 = .ok (.lstore_n 2, 1) := by decide +kernel
theorem d5_22 : decode method_2_code 22 = .ok (.lload_n 2, 1) := by decide +kernel
theorem d5_23 : decode method_2_code 23 = .ok (.ldc2_w 7, 3) := by decide +kernel
theorem d5_26 : decode method_2_code 26 = .ok (.lload_n 0, 1) := by decide +kernel
theorem d5_27 : decode method_2_code 27 = .ok (.lload_n 2, 1) := by decide +kernel
theorem d5_28 : decode method_2_code 28 = .ok (.lmul, 1) := by decide +kernel
theorem d5_29 : decode method_2_code 29 = .ok (.lsub, 1) := by decide +kernel
theorem d5_30 : decode method_2_code 30 = .ok (.lmul, 1) := by decide +kernel
theorem d5_31 : decode method_2_code 31 = .ok (.lstore_n 2, 1) := by decide +kernel
theorem d5_32 : decode method_2_code 32 = .ok (.lload_n 2, 1) := by decide +kernel
theorem d5_33 : decode method_2_code 33 = .ok (.ldc2_w 7, 3) := by decide +kernel
theorem d5_36 : decode method_2_code 36 = .ok (.lload_n 0, 1) := by decide +kernel
theorem d5_37 : decode method_2_code 37 = .ok (.lload_n 2, 1) := by decide +kernel
theorem d5_38 : decode method_2_code 38 = .ok (.lmul, 1) := by decide +kernel
theorem d5_39 : decode method_2_code 39 = .ok (.lsub, 1) := by decide +kernel
theorem d5_40 : decode method_2_code 40 = .ok (.lmul, 1) := by decide +kernel
theorem d5_41 : decode method_2_code 41 = .ok (.lstore_n 2, 1) := by decide +kernel
theorem d5_42 : decode method_2_code 42 = .ok (.lload_n 2, 1) := by decide +kernel
theorem d5_43 : decode method_2_code 43 = .ok (.ldc2_w 7, 3) := by decide +kernel
theorem d5_46 : decode method_2_code 46 = .ok (.lload_n 0, 1) := by decide +kernel
theorem d5_47 : decode method_2_code 47 = .ok (.lload_n 2, 1) := by decide +kernel
theorem d5_48 : decode method_2_code 48 = .ok (.lmul, 1) := by decide +kernel
theorem d5_49 : decode method_2_code 49 = .ok (.lsub, 1) := by decide +kernel
theorem d5_50 : decode method_2_code 50 = .ok (.lmul, 1) := by decide +kernel
theorem d5_51 : decode method_2_code 51 = .ok (.lstore_n 2, 1) := by decide +kernel
theorem d5_52 : decode method_2_code 52 = .ok (.lload_n 2, 1) := by decide +kernel
theorem d5_53 : decode method_2_code 53 = .ok (.ldc2_w 7, 3) := by decide +kernel
theorem d5_56 : decode method_2_code 56 = .ok (.lload_n 0, 1) := by decide +kernel
theorem d5_57 : decode method_2_code 57 = .ok (.lload_n 2, 1) := by decide +kernel
theorem d5_58 : decode method_2_code 58 = .ok (.lmul, 1) := by decide +kernel
theorem d5_59 : decode method_2_code 59 = .ok (.lsub, 1) := by decide +kernel
theorem d5_60 : decode method_2_code 60 = .ok (.lmul, 1) := by decide +kernel
theorem d5_61 : decode method_2_code 61 = .ok (.lstore_n 2, 1) := by decide +kernel
theorem d5_62 : decode method_2_code 62 = .ok (.lload_n 2, 1) := by decide +kernel
theorem d5_63 : decode method_2_code 63 = .ok (.lreturn, 1) := by decide +kernel
theorem own_pn1 : plainName "com/example/oubliette/oubliette/engine/SeededRandomNextLongPinLaw" = true := by first | (simp [plainName, overriddenIn]; done) | decide +kernel
theorem own_ef8 (m : MethodId) (q1 : Int64) : entryFrame m #[(.long q1)] 4 = mkF m 0 #[.val (.long q1), .second, .unset, .unset] [] := by first | (simp [entryFrame, mkF, argsToLocals, Value.category]; done) | rfl
def Q_own_inverse (Z : State) (q1 : Int64) (h0 : Heap) (n0 : Nat)  : Option Value → Heap → List Loc → Prop := fun v h L => v = some (.long (own_inv q1)) ∧ Fr n0 L ∧ h = h0
set_option maxRecDepth 65536 in
set_option maxHeartbeats 40000000 in
theorem own_inverse (l : Launch) (Z : State) (a0 : Array Value) (hw : ∀ d ∈ tables_1, d.before a0 Z = true)  (q1 : Int64) (h0 : Heap) (n0 : Nat)  (Z0 : n0 ≤ h0.size)  :
    ownMet l Z (⟨"com/example/oubliette/oubliette/engine/SeededRandomNextLongPinLaw", "inverse", "(J)J"⟩ : MethodName) method_2_code 4 (some .long) [] ({ frames := 0, cells := 0, slots := 0, locals := 0 } : Room) #[(.long q1)] h0 (Q_own_inverse Z q1 h0 n0 ) := by
  refine ownBody (plainFor_of_name own_pn1) ?_
  intro p e s m below meth c T0 hx hby hml hret hlk hZ hown hnm X0 e0
  have N0 : Fr n0 [] := Fr.nil n0
  refine ownVia (fun _ k => castTop (own_ef8 m q1) k) ?_
  show ownFin _ _ _ _ _ (T0.setTop (mkF m 0 #[.val (.long q1), .second, .unset, .unset] []))
  refine ownVia (fun _ k => XS.lloadN X0.here hx rfl (hb hby d5_0) rfl k) ?_
  show ownFin _ _ _ _ _ (T0.setTop (mkF m 1 #[.val (.long q1), .second, .unset, .unset] [(.long q1)]))
  refine ownVia (fun _ k => XS.lstoreN X0.here hx rfl (hb hby d5_1) rfl (l' := #[.val (.long q1), .second, .val (.long q1), .second]) rfl k) ?_
  show ownFin _ _ _ _ _ (T0.setTop (mkF m 2 #[.val (.long q1), .second, .val (.long q1), .second] []))
  refine ownVia (fun _ k => XS.lloadN X0.here hx rfl (hb hby d5_2) rfl k) ?_
  show ownFin _ _ _ _ _ (T0.setTop (mkF m 3 #[.val (.long q1), .second, .val (.long q1), .second] [(.long q1)]))
  refine ownVia (fun _ k => X0.ldc2Long hx hown (mvT hZ (hw _ (List.mem_of_getElem? (i := 28) rfl))) (g := (mkF m 3 #[.val (.long q1), .second, .val (.long q1), .second] [(.long q1)])) rfl (hb hby d5_3) _ k) ?_
  show ownFin _ _ _ _ _ (T0.setTop (mkF m 6 #[.val (.long q1), .second, .val (.long q1), .second] [(.long (2 : Int64)), (.long q1)]))
  refine ownVia (fun _ k => XS.lloadN X0.here hx rfl (hb hby d5_6) rfl k) ?_
  show ownFin _ _ _ _ _ (T0.setTop (mkF m 7 #[.val (.long q1), .second, .val (.long q1), .second] [(.long q1), (.long (2 : Int64)), (.long q1)]))
  refine ownVia (fun _ k => XS.lloadN X0.here hx rfl (hb hby d5_7) rfl k) ?_
  show ownFin _ _ _ _ _ (T0.setTop (mkF m 8 #[.val (.long q1), .second, .val (.long q1), .second] [(.long q1), (.long q1), (.long (2 : Int64)), (.long q1)]))
  refine ownVia (fun _ k => XS.lmul X0.here hx rfl (hb hby d5_8) rfl k) ?_
  show ownFin _ _ _ _ _ (T0.setTop (mkF m 9 #[.val (.long q1), .second, .val (.long q1), .second] [(.long (q1 * q1)), (.long (2 : Int64)), (.long q1)]))
  refine ownVia (fun _ k => XS.lsub X0.here hx rfl (hb hby d5_9) rfl k) ?_
  show ownFin _ _ _ _ _ (T0.setTop (mkF m 10 #[.val (.long q1), .second, .val (.long q1), .second] [(.long ((2 : Int64) - (q1 * q1))), (.long q1)]))
  refine ownVia (fun _ k => XS.lmul X0.here hx rfl (hb hby d5_10) rfl k) ?_
  show ownFin _ _ _ _ _ (T0.setTop (mkF m 11 #[.val (.long q1), .second, .val (.long q1), .second] [(.long (q1 * ((2 : Int64) - (q1 * q1))))]))
  show ownFin _ _ _ _ _ (T0.setTop (mkF m 11 #[.val (.long q1), .second, .val (.long q1), .second] [(.long (own_it q1 q1))]))
  refine ownVia (fun _ k => XS.lstoreN X0.here hx rfl (hb hby d5_11) rfl (l' := #[.val (.long q1), .second, .val (.long (own_it q1 q1)), .second]) rfl k) ?_
  show ownFin _ _ _ _ _ (T0.setTop (mkF m 12 #[.val (.long q1), .second, .val (.long (own_it q1 q1)), .second] []))
  refine ownVia (fun _ k => XS.lloadN X0.here hx rfl (hb hby d5_12) rfl k) ?_
  show ownFin _ _ _ _ _ (T0.setTop (mkF m 13 #[.val (.long q1), .second, .val (.long (own_it q1 q1)), .second] [(.long (own_it q1 q1))]))
  refine ownVia (fun _ k => X0.ldc2Long hx hown (mvT hZ (hw _ (List.mem_of_getElem? (i := 28) rfl))) (g := (mkF m 13 #[.val (.long q1), .second, .val (.long (own_it q1 q1)), .second] [(.long (own_it q1 q1))])) rfl (hb hby d5_13) _ k) ?_
  show ownFin _ _ _ _ _ (T0.setTop (mkF m 16 #[.val (.long q1), .second, .val (.long (own_it q1 q1)), .second] [(.long (2 : Int64)), (.long (own_it q1 q1))]))
  refine ownVia (fun _ k => XS.lloadN X0.here hx rfl (hb hby d5_16) rfl k) ?_
  show ownFin _ _ _ _ _ (T0.setTop (mkF m 17 #[.val (.long q1), .second, .val (.long (own_it q1 q1)), .second] [(.long q1), (.long (2 : Int64)), (.long (own_it q1 q1))]))
  refine ownVia (fun _ k => XS.lloadN X0.here hx rfl (hb hby d5_17) rfl k) ?_
  show ownFin _ _ _ _ _ (T0.setTop (mkF m 18 #[.val (.long q1), .second, .val (.long (own_it q1 q1)), .second] [(.long (own_it q1 q1)), (.long q1), (.long (2 : Int64)), (.long (own_it q1 q1))]))
  refine ownVia (fun _ k => XS.lmul X0.here hx rfl (hb hby d5_18) rfl k) ?_
  show ownFin _ _ _ _ _ (T0.setTop (mkF m 19 #[.val (.long q1), .second, .val (.long (own_it q1 q1)), .second] [(.long (q1 * (own_it q1 q1))), (.long (2 : Int64)), (.long (own_it q1 q1))]))
  refine ownVia (fun _ k => XS.lsub X0.here hx rfl (hb hby d5_19) rfl k) ?_
  show ownFin _ _ _ _ _ (T0.setTop (mkF m 20 #[.val (.long q1), .second, .val (.long (own_it q1 q1)), .second] [(.long ((2 : Int64) - (q1 * (own_it q1 q1)))), (.long (own_it q1 q1))]))
  refine ownVia (fun _ k => XS.lmul X0.here hx rfl (hb hby d5_20) rfl k) ?_
  show ownFin _ _ _ _ _ (T0.setTop (mkF m 21 #[.val (.long q1), .second, .val (.long (own_it q1 q1)), .second] [(.long ((own_it q1 q1) * ((2 : Int64) - (q1 * (own_it q1 q1)))))]))
  show ownFin _ _ _ _ _ (T0.setTop (mkF m 21 #[.val (.long q1), .second, .val (.long (own_it q1 q1)), .second] [(.long (own_it q1 (own_it q1 q1)))]))
  refine ownVia (fun _ k => XS.lstoreN X0.here hx rfl (hb hby d5_21) rfl (l' := #[.val (.long q1), .second, .val (.long (own_it q1 (own_it q1 q1))), .second]) rfl k) ?_
  show ownFin _ _ _ _ _ (T0.setTop (mkF m 22 #[.val (.long q1), .second, .val (.long (own_it q1 (own_it q1 q1))), .second] []))
  refine ownVia (fun _ k => XS.lloadN X0.here hx rfl (hb hby d5_22) rfl k) ?_
  show ownFin _ _ _ _ _ (T0.setTop (mkF m 23 #[.val (.long q1), .second, .val (.long (own_it q1 (own_it q1 q1))), .second] [(.long (own_it q1 (own_it q1 q1)))]))
  refine ownVia (fun _ k => X0.ldc2Long hx hown (mvT hZ (hw _ (List.mem_of_getElem? (i := 28) rfl))) (g := (mkF m 23 #[.val (.long q1), .second, .val (.long (own_it q1 (own_it q1 q1))), .second] [(.long (own_it q1 (own_it q1 q1)))])) rfl (hb hby d5_23) _ k) ?_
  show ownFin _ _ _ _ _ (T0.setTop (mkF m 26 #[.val (.long q1), .second, .val (.long (own_it q1 (own_it q1 q1))), .second] [(.long (2 : Int64)), (.long (own_it q1 (own_it q1 q1)))]))
  refine ownVia (fun _ k => XS.lloadN X0.here hx rfl (hb hby d5_26) rfl k) ?_
  show ownFin _ _ _ _ _ (T0.setTop (mkF m 27 #[.val (.long q1), .second, .val (.long (own_it q1 (own_it q1 q1))), .second] [(.long q1), (.long (2 : Int64)), (.long (own_it q1 (own_it q1 q1)))]))
  refine ownVia (fun _ k => XS.lloadN X0.here hx rfl (hb hby d5_27) rfl k) ?_
  show ownFin _ _ _ _ _ (T0.setTop (mkF m 28 #[.val (.long q1), .second, .val (.long (own_it q1 (own_it q1 q1))), .second] [(.long (own_it q1 (own_it q1 q1))), (.long q1), (.long (2 : Int64)), (.long (own_it q1 (own_it q1 q1)))]))
  refine ownVia (fun _ k => XS.lmul X0.here hx rfl (hb hby d5_28) rfl k) ?_
  show ownFin _ _ _ _ _ (T0.setTop (mkF m 29 #[.val (.long q1), .second, .val (.long (own_it q1 (own_it q1 q1))), .second] [(.long (q1 * (own_it q1 (own_it q1 q1)))), (.long (2 : Int64)), (.long (own_it q1 (own_it q1 q1)))]))
  refine ownVia (fun _ k => XS.lsub X0.here hx rfl (hb hby d5_29) rfl k) ?_
  show ownFin _ _ _ _ _ (T0.setTop (mkF m 30 #[.val (.long q1), .second, .val (.long (own_it q1 (own_it q1 q1))), .second] [(.long ((2 : Int64) - (q1 * (own_it q1 (own_it q1 q1))))), (.long (own_it q1 (own_it q1 q1)))]))
  refine ownVia (fun _ k => XS.lmul X0.here hx rfl (hb hby d5_30) rfl k) ?_
  show ownFin _ _ _ _ _ (T0.setTop (mkF m 31 #[.val (.long q1), .second, .val (.long (own_it q1 (own_it q1 q1))), .second] [(.long ((own_it q1 (own_it q1 q1)) * ((2 : Int64) - (q1 * (own_it q1 (own_it q1 q1))))))]))
  show ownFin _ _ _ _ _ (T0.setTop (mkF m 31 #[.val (.long q1), .second, .val (.long (own_it q1 (own_it q1 q1))), .second] [(.long (own_it q1 (own_it q1 (own_it q1 q1))))]))
  refine ownVia (fun _ k => XS.lstoreN X0.here hx rfl (hb hby d5_31) rfl (l' := #[.val (.long q1), .second, .val (.long (own_it q1 (own_it q1 (own_it q1 q1)))), .second]) rfl k) ?_
  show ownFin _ _ _ _ _ (T0.setTop (mkF m 32 #[.val (.long q1), .second, .val (.long (own_it q1 (own_it q1 (own_it q1 q1)))), .second] []))
  refine ownVia (fun _ k => XS.lloadN X0.here hx rfl (hb hby d5_32) rfl k) ?_
  show ownFin _ _ _ _ _ (T0.setTop (mkF m 33 #[.val (.long q1), .second, .val (.long (own_it q1 (own_it q1 (own_it q1 q1)))), .second] [(.long (own_it q1 (own_it q1 (own_it q1 q1))))]))
  refine ownVia (fun _ k => X0.ldc2Long hx hown (mvT hZ (hw _ (List.mem_of_getElem? (i := 28) rfl))) (g := (mkF m 33 #[.val (.long q1), .second, .val (.long (own_it q1 (own_it q1 (own_it q1 q1)))), .second] [(.long (own_it q1 (own_it q1 (own_it q1 q1))))])) rfl (hb hby d5_33) _ k) ?_
  show ownFin _ _ _ _ _ (T0.setTop (mkF m 36 #[.val (.long q1), .second, .val (.long (own_it q1 (own_it q1 (own_it q1 q1)))), .second] [(.long (2 : Int64)), (.long (own_it q1 (own_it q1 (own_it q1 q1))))]))
  refine ownVia (fun _ k => XS.lloadN X0.here hx rfl (hb hby d5_36) rfl k) ?_
  show ownFin _ _ _ _ _ (T0.setTop (mkF m 37 #[.val (.long q1), .second, .val (.long (own_it q1 (own_it q1 (own_it q1 q1)))), .second] [(.long q1), (.long (2 : Int64)), (.long (own_it q1 (own_it q1 (own_it q1 q1))))]))
  refine ownVia (fun _ k => XS.lloadN X0.here hx rfl (hb hby d5_37) rfl k) ?_
  show ownFin _ _ _ _ _ (T0.setTop (mkF m 38 #[.val (.long q1), .second, .val (.long (own_it q1 (own_it q1 (own_it q1 q1)))), .second] [(.long (own_it q1 (own_it q1 (own_it q1 q1)))), (.long q1), (.long (2 : Int64)), (.long (own_it q1 (own_it q1 (own_it q1 q1))))]))
  refine ownVia (fun _ k => XS.lmul X0.here hx rfl (hb hby d5_38) rfl k) ?_
  show ownFin _ _ _ _ _ (T0.setTop (mkF m 39 #[.val (.long q1), .second, .val (.long (own_it q1 (own_it q1 (own_it q1 q1)))), .second] [(.long (q1 * (own_it q1 (own_it q1 (own_it q1 q1))))), (.long (2 : Int64)), (.long (own_it q1 (own_it q1 (own_it q1 q1))))]))
  refine ownVia (fun _ k => XS.lsub X0.here hx rfl (hb hby d5_39) rfl k) ?_
  show ownFin _ _ _ _ _ (T0.setTop (mkF m 40 #[.val (.long q1), .second, .val (.long (own_it q1 (own_it q1 (own_it q1 q1)))), .second] [(.long ((2 : Int64) - (q1 * (own_it q1 (own_it q1 (own_it q1 q1)))))), (.long (own_it q1 (own_it q1 (own_it q1 q1))))]))
  refine ownVia (fun _ k => XS.lmul X0.here hx rfl (hb hby d5_40) rfl k) ?_
  show ownFin _ _ _ _ _ (T0.setTop (mkF m 41 #[.val (.long q1), .second, .val (.long (own_it q1 (own_it q1 (own_it q1 q1)))), .second] [(.long ((own_it q1 (own_it q1 (own_it q1 q1))) * ((2 : Int64) - (q1 * (own_it q1 (own_it q1 (own_it q1 q1)))))))]))
  show ownFin _ _ _ _ _ (T0.setTop (mkF m 41 #[.val (.long q1), .second, .val (.long (own_it q1 (own_it q1 (own_it q1 q1)))), .second] [(.long (own_it q1 (own_it q1 (own_it q1 (own_it q1 q1)))))]))
  refine ownVia (fun _ k => XS.lstoreN X0.here hx rfl (hb hby d5_41) rfl (l' := #[.val (.long q1), .second, .val (.long (own_it q1 (own_it q1 (own_it q1 (own_it q1 q1))))), .second]) rfl k) ?_
  show ownFin _ _ _ _ _ (T0.setTop (mkF m 42 #[.val (.long q1), .second, .val (.long (own_it q1 (own_it q1 (own_it q1 (own_it q1 q1))))), .second] []))
  refine ownVia (fun _ k => XS.lloadN X0.here hx rfl (hb hby d5_42) rfl k) ?_
  show ownFin _ _ _ _ _ (T0.setTop (mkF m 43 #[.val (.long q1), .second, .val (.long (own_it q1 (own_it q1 (own_it q1 (own_it q1 q1))))), .second] [(.long (own_it q1 (own_it q1 (own_it q1 (own_it q1 q1)))))]))
  refine ownVia (fun _ k => X0.ldc2Long hx hown (mvT hZ (hw _ (List.mem_of_getElem? (i := 28) rfl))) (g := (mkF m 43 #[.val (.long q1), .second, .val (.long (own_it q1 (own_it q1 (own_it q1 (own_it q1 q1))))), .second] [(.long (own_it q1 (own_it q1 (own_it q1 (own_it q1 q1)))))])) rfl (hb hby d5_43) _ k) ?_
  show ownFin _ _ _ _ _ (T0.setTop (mkF m 46 #[.val (.long q1), .second, .val (.long (own_it q1 (own_it q1 (own_it q1 (own_it q1 q1))))), .second] [(.long (2 : Int64)), (.long (own_it q1 (own_it q1 (own_it q1 (own_it q1 q1)))))]))
  refine ownVia (fun _ k => XS.lloadN X0.here hx rfl (hb hby d5_46) rfl k) ?_
  show ownFin _ _ _ _ _ (T0.setTop (mkF m 47 #[.val (.long q1), .second, .val (.long (own_it q1 (own_it q1 (own_it q1 (own_it q1 q1))))), .second] [(.long q1), (.long (2 : Int64)), (.long (own_it q1 (own_it q1 (own_it q1 (own_it q1 q1)))))]))
  refine ownVia (fun _ k => XS.lloadN X0.here hx rfl (hb hby d5_47) rfl k) ?_
  show ownFin _ _ _ _ _ (T0.setTop (mkF m 48 #[.val (.long q1), .second, .val (.long (own_it q1 (own_it q1 (own_it q1 (own_it q1 q1))))), .second] [(.long (own_it q1 (own_it q1 (own_it q1 (own_it q1 q1))))), (.long q1), (.long (2 : Int64)), (.long (own_it q1 (own_it q1 (own_it q1 (own_it q1 q1)))))]))
  refine ownVia (fun _ k => XS.lmul X0.here hx rfl (hb hby d5_48) rfl k) ?_
  show ownFin _ _ _ _ _ (T0.setTop (mkF m 49 #[.val (.long q1), .second, .val (.long (own_it q1 (own_it q1 (own_it q1 (own_it q1 q1))))), .second] [(.long (q1 * (own_it q1 (own_it q1 (own_it q1 (own_it q1 q1)))))), (.long (2 : Int64)), (.long (own_it q1 (own_it q1 (own_it q1 (own_it q1 q1)))))]))
  refine ownVia (fun _ k => XS.lsub X0.here hx rfl (hb hby d5_49) rfl k) ?_
  show ownFin _ _ _ _ _ (T0.setTop (mkF m 50 #[.val (.long q1), .second, .val (.long (own_it q1 (own_it q1 (own_it q1 (own_it q1 q1))))), .second] [(.long ((2 : Int64) - (q1 * (own_it q1 (own_it q1 (own_it q1 (own_it q1 q1))))))), (.long (own_it q1 (own_it q1 (own_it q1 (own_it q1 q1)))))]))
  refine ownVia (fun _ k => XS.lmul X0.here hx rfl (hb hby d5_50) rfl k) ?_
  show ownFin _ _ _ _ _ (T0.setTop (mkF m 51 #[.val (.long q1), .second, .val (.long (own_it q1 (own_it q1 (own_it q1 (own_it q1 q1))))), .second] [(.long ((own_it q1 (own_it q1 (own_it q1 (own_it q1 q1)))) * ((2 : Int64) - (q1 * (own_it q1 (own_it q1 (own_it q1 (own_it q1 q1))))))))]))
  show ownFin _ _ _ _ _ (T0.setTop (mkF m 51 #[.val (.long q1), .second, .val (.long (own_it q1 (own_it q1 (own_it q1 (own_it q1 q1))))), .second] [(.long (own_it q1 (own_it q1 (own_it q1 (own_it q1 (own_it q1 q1))))))]))
  refine ownVia (fun _ k => XS.lstoreN X0.here hx rfl (hb hby d5_51) rfl (l' := #[.val (.long q1), .second, .val (.long (own_it q1 (own_it q1 (own_it q1 (own_it q1 (own_it q1 q1)))))), .second]) rfl k) ?_
  show ownFin _ _ _ _ _ (T0.setTop (mkF m 52 #[.val (.long q1), .second, .val (.long (own_it q1 (own_it q1 (own_it q1 (own_it q1 (own_it q1 q1)))))), .second] []))
  refine ownVia (fun _ k => XS.lloadN X0.here hx rfl (hb hby d5_52) rfl k) ?_
  show ownFin _ _ _ _ _ (T0.setTop (mkF m 53 #[.val (.long q1), .second, .val (.long (own_it q1 (own_it q1 (own_it q1 (own_it q1 (own_it q1 q1)))))), .second] [(.long (own_it q1 (own_it q1 (own_it q1 (own_it q1 (own_it q1 q1))))))]))
  refine ownVia (fun _ k => X0.ldc2Long hx hown (mvT hZ (hw _ (List.mem_of_getElem? (i := 28) rfl))) (g := (mkF m 53 #[.val (.long q1), .second, .val (.long (own_it q1 (own_it q1 (own_it q1 (own_it q1 (own_it q1 q1)))))), .second] [(.long (own_it q1 (own_it q1 (own_it q1 (own_it q1 (own_it q1 q1))))))])) rfl (hb hby d5_53) _ k) ?_
  show ownFin _ _ _ _ _ (T0.setTop (mkF m 56 #[.val (.long q1), .second, .val (.long (own_it q1 (own_it q1 (own_it q1 (own_it q1 (own_it q1 q1)))))), .second] [(.long (2 : Int64)), (.long (own_it q1 (own_it q1 (own_it q1 (own_it q1 (own_it q1 q1))))))]))
  refine ownVia (fun _ k => XS.lloadN X0.here hx rfl (hb hby d5_56) rfl k) ?_
  show ownFin _ _ _ _ _ (T0.setTop (mkF m 57 #[.val (.long q1), .second, .val (.long (own_it q1 (own_it q1 (own_it q1 (own_it q1 (own_it q1 q1)))))), .second] [(.long q1), (.long (2 : Int64)), (.long (own_it q1 (own_it q1 (own_it q1 (own_it q1 (own_it q1 q1))))))]))
  refine ownVia (fun _ k => XS.lloadN X0.here hx rfl (hb hby d5_57) rfl k) ?_
  show ownFin _ _ _ _ _ (T0.setTop (mkF m 58 #[.val (.long q1), .second, .val (.long (own_it q1 (own_it q1 (own_it q1 (own_it q1 (own_it q1 q1)))))), .second] [(.long (own_it q1 (own_it q1 (own_it q1 (own_it q1 (own_it q1 q1)))))), (.long q1), (.long (2 : Int64)), (.long (own_it q1 (own_it q1 (own_it q1 (own_it q1 (own_it q1 q1))))))]))
  refine ownVia (fun _ k => XS.lmul X0.here hx rfl (hb hby d5_58) rfl k) ?_
  show ownFin _ _ _ _ _ (T0.setTop (mkF m 59 #[.val (.long q1), .second, .val (.long (own_it q1 (own_it q1 (own_it q1 (own_it q1 (own_it q1 q1)))))), .second] [(.long (q1 * (own_it q1 (own_it q1 (own_it q1 (own_it q1 (own_it q1 q1))))))), (.long (2 : Int64)), (.long (own_it q1 (own_it q1 (own_it q1 (own_it q1 (own_it q1 q1))))))]))
  refine ownVia (fun _ k => XS.lsub X0.here hx rfl (hb hby d5_59) rfl k) ?_
  show ownFin _ _ _ _ _ (T0.setTop (mkF m 60 #[.val (.long q1), .second, .val (.long (own_it q1 (own_it q1 (own_it q1 (own_it q1 (own_it q1 q1)))))), .second] [(.long ((2 : Int64) - (q1 * (own_it q1 (own_it q1 (own_it q1 (own_it q1 (own_it q1 q1)))))))), (.long (own_it q1 (own_it q1 (own_it q1 (own_it q1 (own_it q1 q1))))))]))
  refine ownVia (fun _ k => XS.lmul X0.here hx rfl (hb hby d5_60) rfl k) ?_
  show ownFin _ _ _ _ _ (T0.setTop (mkF m 61 #[.val (.long q1), .second, .val (.long (own_it q1 (own_it q1 (own_it q1 (own_it q1 (own_it q1 q1)))))), .second] [(.long ((own_it q1 (own_it q1 (own_it q1 (own_it q1 (own_it q1 q1))))) * ((2 : Int64) - (q1 * (own_it q1 (own_it q1 (own_it q1 (own_it q1 (own_it q1 q1)))))))))]))
  show ownFin _ _ _ _ _ (T0.setTop (mkF m 61 #[.val (.long q1), .second, .val (.long (own_it q1 (own_it q1 (own_it q1 (own_it q1 (own_it q1 q1)))))), .second] [(.long (own_it q1 (own_it q1 (own_it q1 (own_it q1 (own_it q1 (own_it q1 q1)))))))]))
  refine ownVia (fun _ k => XS.lstoreN X0.here hx rfl (hb hby d5_61) rfl (l' := #[.val (.long q1), .second, .val (.long (own_it q1 (own_it q1 (own_it q1 (own_it q1 (own_it q1 (own_it q1 q1))))))), .second]) rfl k) ?_
  show ownFin _ _ _ _ _ (T0.setTop (mkF m 62 #[.val (.long q1), .second, .val (.long (own_it q1 (own_it q1 (own_it q1 (own_it q1 (own_it q1 (own_it q1 q1))))))), .second] []))
  refine ownVia (fun _ k => XS.lloadN X0.here hx rfl (hb hby d5_62) rfl k) ?_
  show ownFin _ _ _ _ _ (T0.setTop (mkF m 63 #[.val (.long q1), .second, .val (.long (own_it q1 (own_it q1 (own_it q1 (own_it q1 (own_it q1 (own_it q1 q1))))))), .second] [(.long (own_it q1 (own_it q1 (own_it q1 (own_it q1 (own_it q1 (own_it q1 q1)))))))]))
  show ownFin _ _ _ _ _ (T0.setTop (mkF m 63 #[.val (.long q1), .second, .val (.long (own_inv q1)), .second] [(.long (own_inv q1))]))
  refine ownRetJ X0 hx hlk hret (hb hby d5_63) (by decide) (by decide) ?_
  show (Q_own_inverse Z q1 h0 n0 ) (some (.long (own_inv q1))) T0.heap _
  rw [e0]
  exact ⟨rfl, N0, rfl⟩
theorem d4_0 : decode method_3_code 0 = .ok (.ldc2_w 9, 3) := by decide +kernel
theorem d4_3 : decode method_3_code 3 = .ok (.invokestatic 11, 3) := by decide +kernel
theorem d4_6 : decode method_3_code 6 = .ok (.lstore_n 2, 1) := by decide +kernel
theorem d4_7 : decode method_3_code 7 = .ok (.ldc2_w 17, 3) := by decide +kernel
theorem d4_10 : decode method_3_code 10 = .ok (.invokestatic 11, 3) := by decide +kernel
theorem d4_13 : decode method_3_code 13 = .ok (.lstore 4, 2) := by decide +kernel
theorem d4_15 : decode method_3_code 15 = .ok (.lload_n 0, 1) := by decide +kernel
theorem d4_16 : decode method_3_code 16 = .ok (.lload_n 0, 1) := by decide +kernel
theorem d4_17 : decode method_3_code 17 = .ok (.bipush 31, 2) := by decide +kernel
theorem d4_19 : decode method_3_code 19 = .ok (.lushr, 1) := by decide +kernel
theorem d4_20 : decode method_3_code 20 = .ok (.lxor, 1) := by decide +kernel
theorem d4_21 : decode method_3_code 21 = .ok (.lload_n 0, 1) := by decide +kernel
theorem d4_22 : decode method_3_code 22 = .ok (.bipush 62, 2) := by decide +kernel
theorem d4_24 : decode method_3_code 24 = .ok (.lushr, 1) := by decide +kernel
theorem d4_25 : decode method_3_code 25 = .ok (.lxor, 1) := by decide +kernel
theorem d4_26 : decode method_3_code 26 = .ok (.lstore 6, 2) := by decide +kernel
theorem d4_28 : decode method_3_code 28 = .ok (.lload 6, 2) := by decide +kernel
theorem d4_30 : decode method_3_code 30 = .ok (.lload 4, 2) := by decide +kernel
theorem d4_32 : decode method_3_code 32 = .ok (.lmul, 1) := by decide +kernel
theorem d4_33 : decode method_3_code 33 = .ok (.lstore 8, 2) := by decide +kernel
theorem d4_35 : decode method_3_code 35 = .ok (.lload 8, 2) := by decide +kernel
theorem d4_37 : decode method_3_code 37 = .ok (.lload 8, 2) := by decide +kernel
theorem d4_39 : decode method_3_code 39 = .ok (.bipush 27, 2) := by decide +kernel
theorem d4_41 : decode method_3_code 41 = .ok (.lushr, 1) := by decide +kernel
theorem d4_42 : decode method_3_code 42 = .ok (.lxor, 1) := by decide +kernel
theorem d4_43 : decode method_3_code 43 = .ok (.lload 8, 2) := by decide +kernel
theorem d4_45 : decode method_3_code 45 = .ok (.bipush 54, 2) := by decide +kernel
theorem d4_47 : decode method_3_code 47 = .ok (.lushr, 1) := by decide +kernel
theorem d4_48 : decode method_3_code 48 = .ok (.lxor, 1) := by decide +kernel
theorem d4_49 : decode method_3_code 49 = .ok (.lstore 10, 2) := by decide +kernel
theorem d4_51 : decode method_3_code 51 = .ok (.lload 10, 2) := by decide +kernel
theorem d4_53 : decode method_3_code 53 = .ok (.lload_n 2, 1) := by decide +kernel
theorem d4_54 : decode method_3_code 54 = .ok (.lmul, 1) := by decide +kernel
theorem d4_55 : decode method_3_code 55 = .ok (.lstore 12, 2) := by decide +kernel
theorem d4_57 : decode method_3_code 57 = .ok (.lload 12, 2) := by decide +kernel
theorem d4_59 : decode method_3_code 59 = .ok (.lload 12, 2) := by decide +kernel
theorem d4_61 : decode method_3_code 61 = .ok (.bipush 30, 2) := by decide +kernel
theorem d4_63 : decode method_3_code 63 = .ok (.lushr, 1) := by decide +kernel
theorem d4_64 : decode method_3_code 64 = .ok (.lxor, 1) := by decide +kernel
theorem d4_65 : decode method_3_code 65 = .ok (.lload 12, 2) := by decide +kernel
theorem d4_67 : decode method_3_code 67 = .ok (.bipush 60, 2) := by decide +kernel
theorem d4_69 : decode method_3_code 69 = .ok (.lushr, 1) := by decide +kernel
theorem d4_70 : decode method_3_code 70 = .ok (.lxor, 1) := by decide +kernel
theorem d4_71 : decode method_3_code 71 = .ok (.lreturn, 1) := by decide +kernel
theorem own_ef9 (m : MethodId) (q1 : Int64) : entryFrame m #[(.long q1)] 14 = mkF m 0 #[.val (.long q1), .second, .unset, .unset, .unset, .unset, .unset, .unset, .unset, .unset, .unset, .unset, .unset, .unset] [] := by first | (simp [entryFrame, mkF, argsToLocals, Value.category]; done) | rfl
def Q_own_unm (Z : State) (q1 : Int64) (h0 : Heap) (n0 : Nat)  : Option Value → Heap → List Loc → Prop := fun v h L => v = some (.long (own_unmix q1)) ∧ Fr n0 L ∧ h = h0
theorem own_pd0 : parseMethodDescriptor "(J)J" = some ⟨[.long], some .long⟩ := by decide +kernel
set_option maxRecDepth 65536 in
set_option maxHeartbeats 40000000 in
theorem own_unm (l : Launch) (Z : State) (a0 : Array Value) (hw : ∀ d ∈ tables_1, d.before a0 Z = true)  (q1 : Int64) (h0 : Heap) (n0 : Nat)  (Z0 : n0 ≤ h0.size)  :
    ownMet l Z (⟨"com/example/oubliette/oubliette/engine/SeededRandomNextLongPinLaw", "unmix", "(J)J"⟩ : MethodName) method_3_code 14 (some .long) [] ({ frames := 1, cells := 0, slots := 0, locals := 24 } : Room) #[(.long q1)] h0 (Q_own_unm Z q1 h0 n0 ) := by
  refine ownBody (plainFor_of_name own_pn1) ?_
  intro p e s m below meth c T0 hx hby hml hret hlk hZ hown hnm X0 e0
  have N0 : Fr n0 [] := Fr.nil n0
  refine ownVia (fun _ k => castTop (own_ef9 m q1) k) ?_
  show ownFin _ _ _ _ _ (T0.setTop (mkF m 0 #[.val (.long q1), .second, .unset, .unset, .unset, .unset, .unset, .unset, .unset, .unset, .unset, .unset, .unset, .unset] []))
  refine ownVia (fun _ k => X0.ldc2Long hx hown (mvT hZ (hw _ (List.mem_of_getElem? (i := 24) rfl))) (g := (mkF m 0 #[.val (.long q1), .second, .unset, .unset, .unset, .unset, .unset, .unset, .unset, .unset, .unset, .unset, .unset, .unset] [])) rfl (hb hby d4_0) _ k) ?_
  show ownFin _ _ _ _ _ (T0.setTop (mkF m 3 #[.val (.long q1), .second, .unset, .unset, .unset, .unset, .unset, .unset, .unset, .unset, .unset, .unset, .unset, .unset] [(.long (-4658895280553007687 : Int64))]))
  refine ownCallS X0 hx hZ hown (hw _ (List.mem_of_getElem? (i := 25) rfl)) (hw _ (List.mem_of_getElem? (i := 26) rfl)) (hw _ (List.mem_of_getElem? (i := 22) rfl)) (hw _ (List.mem_of_getElem? (i := 27) rfl)) (by decide) e0 (own_inverse l Z a0 hw (-4658895280553007687 : Int64) h0 n0 Z0) (by rw [hml]; rfl) [(.long (-4658895280553007687 : Int64))] [] (lenOf own_pd0 rfl) rfl rfl 0 rfl (hb hby d4_3) (by decide) (by decide) (by decide) (by decide) ?_
  intro v10 T10 L10 X10 hq10
  obtain ⟨rfl, N10q, eq10⟩ := hq10
  have N10 := Fr.app N0 N10q
  have e10 : T10.heap = h0 := eq10
  show ownFin _ _ _ _ _ (T10.setTop (mkF m 6 #[.val (.long q1), .second, .unset, .unset, .unset, .unset, .unset, .unset, .unset, .unset, .unset, .unset, .unset, .unset] [(.long (own_inv (-4658895280553007687 : Int64)))]))
  refine ownVia (fun _ k => XS.lstoreN X10.here hx rfl (hb hby d4_6) rfl (l' := #[.val (.long q1), .second, .val (.long (own_inv (-4658895280553007687 : Int64))), .second, .unset, .unset, .unset, .unset, .unset, .unset, .unset, .unset, .unset, .unset]) rfl k) ?_
  show ownFin _ _ _ _ _ (T10.setTop (mkF m 7 #[.val (.long q1), .second, .val (.long (own_inv (-4658895280553007687 : Int64))), .second, .unset, .unset, .unset, .unset, .unset, .unset, .unset, .unset, .unset, .unset] []))
  refine ownVia (fun _ k => X10.ldc2Long hx hown (mvT hZ (hw _ (List.mem_of_getElem? (i := 29) rfl))) (g := (mkF m 7 #[.val (.long q1), .second, .val (.long (own_inv (-4658895280553007687 : Int64))), .second, .unset, .unset, .unset, .unset, .unset, .unset, .unset, .unset, .unset, .unset] [])) rfl (hb hby d4_7) _ k) ?_
  show ownFin _ _ _ _ _ (T10.setTop (mkF m 10 #[.val (.long q1), .second, .val (.long (own_inv (-4658895280553007687 : Int64))), .second, .unset, .unset, .unset, .unset, .unset, .unset, .unset, .unset, .unset, .unset] [(.long (-7723592293110705685 : Int64))]))
  refine ownCallS X10 hx hZ hown (hw _ (List.mem_of_getElem? (i := 25) rfl)) (hw _ (List.mem_of_getElem? (i := 26) rfl)) (hw _ (List.mem_of_getElem? (i := 22) rfl)) (hw _ (List.mem_of_getElem? (i := 27) rfl)) (by decide) e10 (own_inverse l Z a0 hw (-7723592293110705685 : Int64) h0 n0 Z0) (by rw [hml]; rfl) [(.long (-7723592293110705685 : Int64))] [] (lenOf own_pd0 rfl) rfl rfl 0 rfl (hb hby d4_10) (by decide) (by decide) (by decide) (by decide) ?_
  intro v11 T11 L11 X11 hq11
  obtain ⟨rfl, N11q, eq11⟩ := hq11
  have N11 := Fr.app N10 N11q
  have e11 : T11.heap = h0 := eq11
  show ownFin _ _ _ _ _ (T11.setTop (mkF m 13 #[.val (.long q1), .second, .val (.long (own_inv (-4658895280553007687 : Int64))), .second, .unset, .unset, .unset, .unset, .unset, .unset, .unset, .unset, .unset, .unset] [(.long (own_inv (-7723592293110705685 : Int64)))]))
  refine ownVia (fun _ k => XS.lstore X11.here hx rfl (hb hby d4_13) rfl (l' := #[.val (.long q1), .second, .val (.long (own_inv (-4658895280553007687 : Int64))), .second, .val (.long (own_inv (-7723592293110705685 : Int64))), .second, .unset, .unset, .unset, .unset, .unset, .unset, .unset, .unset]) rfl k) ?_
  show ownFin _ _ _ _ _ (T11.setTop (mkF m 15 #[.val (.long q1), .second, .val (.long (own_inv (-4658895280553007687 : Int64))), .second, .val (.long (own_inv (-7723592293110705685 : Int64))), .second, .unset, .unset, .unset, .unset, .unset, .unset, .unset, .unset] []))
  refine ownVia (fun _ k => XS.lloadN X11.here hx rfl (hb hby d4_15) rfl k) ?_
  show ownFin _ _ _ _ _ (T11.setTop (mkF m 16 #[.val (.long q1), .second, .val (.long (own_inv (-4658895280553007687 : Int64))), .second, .val (.long (own_inv (-7723592293110705685 : Int64))), .second, .unset, .unset, .unset, .unset, .unset, .unset, .unset, .unset] [(.long q1)]))
  refine ownVia (fun _ k => XS.lloadN X11.here hx rfl (hb hby d4_16) rfl k) ?_
  show ownFin _ _ _ _ _ (T11.setTop (mkF m 17 #[.val (.long q1), .second, .val (.long (own_inv (-4658895280553007687 : Int64))), .second, .val (.long (own_inv (-7723592293110705685 : Int64))), .second, .unset, .unset, .unset, .unset, .unset, .unset, .unset, .unset] [(.long q1), (.long q1)]))
  refine ownVia (fun _ k => XS.bipush X11.here hx rfl (hb hby d4_17) k) ?_
  show ownFin _ _ _ _ _ (T11.setTop (mkF m 19 #[.val (.long q1), .second, .val (.long (own_inv (-4658895280553007687 : Int64))), .second, .val (.long (own_inv (-7723592293110705685 : Int64))), .second, .unset, .unset, .unset, .unset, .unset, .unset, .unset, .unset] [(.int (31 : Int32)), (.long q1), (.long q1)]))
  refine ownVia (fun _ k => XS.lushr X11.here hx rfl (hb hby d4_19) rfl k) ?_
  show ownFin _ _ _ _ _ (T11.setTop (mkF m 20 #[.val (.long q1), .second, .val (.long (own_inv (-4658895280553007687 : Int64))), .second, .val (.long (own_inv (-7723592293110705685 : Int64))), .second, .unset, .unset, .unset, .unset, .unset, .unset, .unset, .unset] [(.long ((q1.toUInt64 >>> ((31 : Int32) &&& 0x3f).toInt64.toUInt64).toInt64)), (.long q1)]))
  refine ownVia (fun _ k => XS.lxor X11.here hx rfl (hb hby d4_20) rfl k) ?_
  show ownFin _ _ _ _ _ (T11.setTop (mkF m 21 #[.val (.long q1), .second, .val (.long (own_inv (-4658895280553007687 : Int64))), .second, .val (.long (own_inv (-7723592293110705685 : Int64))), .second, .unset, .unset, .unset, .unset, .unset, .unset, .unset, .unset] [(.long (q1 ^^^ ((q1.toUInt64 >>> ((31 : Int32) &&& 0x3f).toInt64.toUInt64).toInt64)))]))
  refine ownVia (fun _ k => XS.lloadN X11.here hx rfl (hb hby d4_21) rfl k) ?_
  show ownFin _ _ _ _ _ (T11.setTop (mkF m 22 #[.val (.long q1), .second, .val (.long (own_inv (-4658895280553007687 : Int64))), .second, .val (.long (own_inv (-7723592293110705685 : Int64))), .second, .unset, .unset, .unset, .unset, .unset, .unset, .unset, .unset] [(.long q1), (.long (q1 ^^^ ((q1.toUInt64 >>> ((31 : Int32) &&& 0x3f).toInt64.toUInt64).toInt64)))]))
  refine ownVia (fun _ k => XS.bipush X11.here hx rfl (hb hby d4_22) k) ?_
  show ownFin _ _ _ _ _ (T11.setTop (mkF m 24 #[.val (.long q1), .second, .val (.long (own_inv (-4658895280553007687 : Int64))), .second, .val (.long (own_inv (-7723592293110705685 : Int64))), .second, .unset, .unset, .unset, .unset, .unset, .unset, .unset, .unset] [(.int (62 : Int32)), (.long q1), (.long (q1 ^^^ ((q1.toUInt64 >>> ((31 : Int32) &&& 0x3f).toInt64.toUInt64).toInt64)))]))
  refine ownVia (fun _ k => XS.lushr X11.here hx rfl (hb hby d4_24) rfl k) ?_
  show ownFin _ _ _ _ _ (T11.setTop (mkF m 25 #[.val (.long q1), .second, .val (.long (own_inv (-4658895280553007687 : Int64))), .second, .val (.long (own_inv (-7723592293110705685 : Int64))), .second, .unset, .unset, .unset, .unset, .unset, .unset, .unset, .unset] [(.long ((q1.toUInt64 >>> ((62 : Int32) &&& 0x3f).toInt64.toUInt64).toInt64)), (.long (q1 ^^^ ((q1.toUInt64 >>> ((31 : Int32) &&& 0x3f).toInt64.toUInt64).toInt64)))]))
  refine ownVia (fun _ k => XS.lxor X11.here hx rfl (hb hby d4_25) rfl k) ?_
  show ownFin _ _ _ _ _ (T11.setTop (mkF m 26 #[.val (.long q1), .second, .val (.long (own_inv (-4658895280553007687 : Int64))), .second, .val (.long (own_inv (-7723592293110705685 : Int64))), .second, .unset, .unset, .unset, .unset, .unset, .unset, .unset, .unset] [(.long ((q1 ^^^ ((q1.toUInt64 >>> ((31 : Int32) &&& 0x3f).toInt64.toUInt64).toInt64)) ^^^ ((q1.toUInt64 >>> ((62 : Int32) &&& 0x3f).toInt64.toUInt64).toInt64)))]))
  show ownFin _ _ _ _ _ (T11.setTop (mkF m 26 #[.val (.long q1), .second, .val (.long (own_inv (-4658895280553007687 : Int64))), .second, .val (.long (own_inv (-7723592293110705685 : Int64))), .second, .unset, .unset, .unset, .unset, .unset, .unset, .unset, .unset] [(.long (own_x3 q1 31 62))]))
  refine ownVia (fun _ k => XS.lstore X11.here hx rfl (hb hby d4_26) rfl (l' := #[.val (.long q1), .second, .val (.long (own_inv (-4658895280553007687 : Int64))), .second, .val (.long (own_inv (-7723592293110705685 : Int64))), .second, .val (.long (own_x3 q1 31 62)), .second, .unset, .unset, .unset, .unset, .unset, .unset]) rfl k) ?_
  show ownFin _ _ _ _ _ (T11.setTop (mkF m 28 #[.val (.long q1), .second, .val (.long (own_inv (-4658895280553007687 : Int64))), .second, .val (.long (own_inv (-7723592293110705685 : Int64))), .second, .val (.long (own_x3 q1 31 62)), .second, .unset, .unset, .unset, .unset, .unset, .unset] []))
  refine ownVia (fun _ k => XS.lload X11.here hx rfl (hb hby d4_28) rfl k) ?_
  show ownFin _ _ _ _ _ (T11.setTop (mkF m 30 #[.val (.long q1), .second, .val (.long (own_inv (-4658895280553007687 : Int64))), .second, .val (.long (own_inv (-7723592293110705685 : Int64))), .second, .val (.long (own_x3 q1 31 62)), .second, .unset, .unset, .unset, .unset, .unset, .unset] [(.long (own_x3 q1 31 62))]))
  refine ownVia (fun _ k => XS.lload X11.here hx rfl (hb hby d4_30) rfl k) ?_
  show ownFin _ _ _ _ _ (T11.setTop (mkF m 32 #[.val (.long q1), .second, .val (.long (own_inv (-4658895280553007687 : Int64))), .second, .val (.long (own_inv (-7723592293110705685 : Int64))), .second, .val (.long (own_x3 q1 31 62)), .second, .unset, .unset, .unset, .unset, .unset, .unset] [(.long (own_inv (-7723592293110705685 : Int64))), (.long (own_x3 q1 31 62))]))
  refine ownVia (fun _ k => XS.lmul X11.here hx rfl (hb hby d4_32) rfl k) ?_
  show ownFin _ _ _ _ _ (T11.setTop (mkF m 33 #[.val (.long q1), .second, .val (.long (own_inv (-4658895280553007687 : Int64))), .second, .val (.long (own_inv (-7723592293110705685 : Int64))), .second, .val (.long (own_x3 q1 31 62)), .second, .unset, .unset, .unset, .unset, .unset, .unset] [(.long ((own_x3 q1 31 62) * (own_inv (-7723592293110705685 : Int64))))]))
  refine ownVia (fun _ k => XS.lstore X11.here hx rfl (hb hby d4_33) rfl (l' := #[.val (.long q1), .second, .val (.long (own_inv (-4658895280553007687 : Int64))), .second, .val (.long (own_inv (-7723592293110705685 : Int64))), .second, .val (.long (own_x3 q1 31 62)), .second, .val (.long ((own_x3 q1 31 62) * (own_inv (-7723592293110705685 : Int64)))), .second, .unset, .unset, .unset, .unset]) rfl k) ?_
  show ownFin _ _ _ _ _ (T11.setTop (mkF m 35 #[.val (.long q1), .second, .val (.long (own_inv (-4658895280553007687 : Int64))), .second, .val (.long (own_inv (-7723592293110705685 : Int64))), .second, .val (.long (own_x3 q1 31 62)), .second, .val (.long ((own_x3 q1 31 62) * (own_inv (-7723592293110705685 : Int64)))), .second, .unset, .unset, .unset, .unset] []))
  refine ownVia (fun _ k => XS.lload X11.here hx rfl (hb hby d4_35) rfl k) ?_
  show ownFin _ _ _ _ _ (T11.setTop (mkF m 37 #[.val (.long q1), .second, .val (.long (own_inv (-4658895280553007687 : Int64))), .second, .val (.long (own_inv (-7723592293110705685 : Int64))), .second, .val (.long (own_x3 q1 31 62)), .second, .val (.long ((own_x3 q1 31 62) * (own_inv (-7723592293110705685 : Int64)))), .second, .unset, .unset, .unset, .unset] [(.long ((own_x3 q1 31 62) * (own_inv (-7723592293110705685 : Int64))))]))
  refine ownVia (fun _ k => XS.lload X11.here hx rfl (hb hby d4_37) rfl k) ?_
  show ownFin _ _ _ _ _ (T11.setTop (mkF m 39 #[.val (.long q1), .second, .val (.long (own_inv (-4658895280553007687 : Int64))), .second, .val (.long (own_inv (-7723592293110705685 : Int64))), .second, .val (.long (own_x3 q1 31 62)), .second, .val (.long ((own_x3 q1 31 62) * (own_inv (-7723592293110705685 : Int64)))), .second, .unset, .unset, .unset, .unset] [(.long ((own_x3 q1 31 62) * (own_inv (-7723592293110705685 : Int64)))), (.long ((own_x3 q1 31 62) * (own_inv (-7723592293110705685 : Int64))))]))
  refine ownVia (fun _ k => XS.bipush X11.here hx rfl (hb hby d4_39) k) ?_
  show ownFin _ _ _ _ _ (T11.setTop (mkF m 41 #[.val (.long q1), .second, .val (.long (own_inv (-4658895280553007687 : Int64))), .second, .val (.long (own_inv (-7723592293110705685 : Int64))), .second, .val (.long (own_x3 q1 31 62)), .second, .val (.long ((own_x3 q1 31 62) * (own_inv (-7723592293110705685 : Int64)))), .second, .unset, .unset, .unset, .unset] [(.int (27 : Int32)), (.long ((own_x3 q1 31 62) * (own_inv (-7723592293110705685 : Int64)))), (.long ((own_x3 q1 31 62) * (own_inv (-7723592293110705685 : Int64))))]))
  refine ownVia (fun _ k => XS.lushr X11.here hx rfl (hb hby d4_41) rfl k) ?_
  show ownFin _ _ _ _ _ (T11.setTop (mkF m 42 #[.val (.long q1), .second, .val (.long (own_inv (-4658895280553007687 : Int64))), .second, .val (.long (own_inv (-7723592293110705685 : Int64))), .second, .val (.long (own_x3 q1 31 62)), .second, .val (.long ((own_x3 q1 31 62) * (own_inv (-7723592293110705685 : Int64)))), .second, .unset, .unset, .unset, .unset] [(.long ((((own_x3 q1 31 62) * (own_inv (-7723592293110705685 : Int64))).toUInt64 >>> ((27 : Int32) &&& 0x3f).toInt64.toUInt64).toInt64)), (.long ((own_x3 q1 31 62) * (own_inv (-7723592293110705685 : Int64))))]))
  refine ownVia (fun _ k => XS.lxor X11.here hx rfl (hb hby d4_42) rfl k) ?_
  show ownFin _ _ _ _ _ (T11.setTop (mkF m 43 #[.val (.long q1), .second, .val (.long (own_inv (-4658895280553007687 : Int64))), .second, .val (.long (own_inv (-7723592293110705685 : Int64))), .second, .val (.long (own_x3 q1 31 62)), .second, .val (.long ((own_x3 q1 31 62) * (own_inv (-7723592293110705685 : Int64)))), .second, .unset, .unset, .unset, .unset] [(.long (((own_x3 q1 31 62) * (own_inv (-7723592293110705685 : Int64))) ^^^ ((((own_x3 q1 31 62) * (own_inv (-7723592293110705685 : Int64))).toUInt64 >>> ((27 : Int32) &&& 0x3f).toInt64.toUInt64).toInt64)))]))
  refine ownVia (fun _ k => XS.lload X11.here hx rfl (hb hby d4_43) rfl k) ?_
  show ownFin _ _ _ _ _ (T11.setTop (mkF m 45 #[.val (.long q1), .second, .val (.long (own_inv (-4658895280553007687 : Int64))), .second, .val (.long (own_inv (-7723592293110705685 : Int64))), .second, .val (.long (own_x3 q1 31 62)), .second, .val (.long ((own_x3 q1 31 62) * (own_inv (-7723592293110705685 : Int64)))), .second, .unset, .unset, .unset, .unset] [(.long ((own_x3 q1 31 62) * (own_inv (-7723592293110705685 : Int64)))), (.long (((own_x3 q1 31 62) * (own_inv (-7723592293110705685 : Int64))) ^^^ ((((own_x3 q1 31 62) * (own_inv (-7723592293110705685 : Int64))).toUInt64 >>> ((27 : Int32) &&& 0x3f).toInt64.toUInt64).toInt64)))]))
  refine ownVia (fun _ k => XS.bipush X11.here hx rfl (hb hby d4_45) k) ?_
  show ownFin _ _ _ _ _ (T11.setTop (mkF m 47 #[.val (.long q1), .second, .val (.long (own_inv (-4658895280553007687 : Int64))), .second, .val (.long (own_inv (-7723592293110705685 : Int64))), .second, .val (.long (own_x3 q1 31 62)), .second, .val (.long ((own_x3 q1 31 62) * (own_inv (-7723592293110705685 : Int64)))), .second, .unset, .unset, .unset, .unset] [(.int (54 : Int32)), (.long ((own_x3 q1 31 62) * (own_inv (-7723592293110705685 : Int64)))), (.long (((own_x3 q1 31 62) * (own_inv (-7723592293110705685 : Int64))) ^^^ ((((own_x3 q1 31 62) * (own_inv (-7723592293110705685 : Int64))).toUInt64 >>> ((27 : Int32) &&& 0x3f).toInt64.toUInt64).toInt64)))]))
  refine ownVia (fun _ k => XS.lushr X11.here hx rfl (hb hby d4_47) rfl k) ?_
  show ownFin _ _ _ _ _ (T11.setTop (mkF m 48 #[.val (.long q1), .second, .val (.long (own_inv (-4658895280553007687 : Int64))), .second, .val (.long (own_inv (-7723592293110705685 : Int64))), .second, .val (.long (own_x3 q1 31 62)), .second, .val (.long ((own_x3 q1 31 62) * (own_inv (-7723592293110705685 : Int64)))), .second, .unset, .unset, .unset, .unset] [(.long ((((own_x3 q1 31 62) * (own_inv (-7723592293110705685 : Int64))).toUInt64 >>> ((54 : Int32) &&& 0x3f).toInt64.toUInt64).toInt64)), (.long (((own_x3 q1 31 62) * (own_inv (-7723592293110705685 : Int64))) ^^^ ((((own_x3 q1 31 62) * (own_inv (-7723592293110705685 : Int64))).toUInt64 >>> ((27 : Int32) &&& 0x3f).toInt64.toUInt64).toInt64)))]))
  refine ownVia (fun _ k => XS.lxor X11.here hx rfl (hb hby d4_48) rfl k) ?_
  show ownFin _ _ _ _ _ (T11.setTop (mkF m 49 #[.val (.long q1), .second, .val (.long (own_inv (-4658895280553007687 : Int64))), .second, .val (.long (own_inv (-7723592293110705685 : Int64))), .second, .val (.long (own_x3 q1 31 62)), .second, .val (.long ((own_x3 q1 31 62) * (own_inv (-7723592293110705685 : Int64)))), .second, .unset, .unset, .unset, .unset] [(.long ((((own_x3 q1 31 62) * (own_inv (-7723592293110705685 : Int64))) ^^^ ((((own_x3 q1 31 62) * (own_inv (-7723592293110705685 : Int64))).toUInt64 >>> ((27 : Int32) &&& 0x3f).toInt64.toUInt64).toInt64)) ^^^ ((((own_x3 q1 31 62) * (own_inv (-7723592293110705685 : Int64))).toUInt64 >>> ((54 : Int32) &&& 0x3f).toInt64.toUInt64).toInt64)))]))
  show ownFin _ _ _ _ _ (T11.setTop (mkF m 49 #[.val (.long q1), .second, .val (.long (own_inv (-4658895280553007687 : Int64))), .second, .val (.long (own_inv (-7723592293110705685 : Int64))), .second, .val (.long (own_x3 q1 31 62)), .second, .val (.long ((own_x3 q1 31 62) * (own_inv (-7723592293110705685 : Int64)))), .second, .unset, .unset, .unset, .unset] [(.long (own_x3 ((own_x3 q1 31 62) * (own_inv (-7723592293110705685 : Int64))) 27 54))]))
  refine ownVia (fun _ k => XS.lstore X11.here hx rfl (hb hby d4_49) rfl (l' := #[.val (.long q1), .second, .val (.long (own_inv (-4658895280553007687 : Int64))), .second, .val (.long (own_inv (-7723592293110705685 : Int64))), .second, .val (.long (own_x3 q1 31 62)), .second, .val (.long ((own_x3 q1 31 62) * (own_inv (-7723592293110705685 : Int64)))), .second, .val (.long (own_x3 ((own_x3 q1 31 62) * (own_inv (-7723592293110705685 : Int64))) 27 54)), .second, .unset, .unset]) rfl k) ?_
  show ownFin _ _ _ _ _ (T11.setTop (mkF m 51 #[.val (.long q1), .second, .val (.long (own_inv (-4658895280553007687 : Int64))), .second, .val (.long (own_inv (-7723592293110705685 : Int64))), .second, .val (.long (own_x3 q1 31 62)), .second, .val (.long ((own_x3 q1 31 62) * (own_inv (-7723592293110705685 : Int64)))), .second, .val (.long (own_x3 ((own_x3 q1 31 62) * (own_inv (-7723592293110705685 : Int64))) 27 54)), .second, .unset, .unset] []))
  refine ownVia (fun _ k => XS.lload X11.here hx rfl (hb hby d4_51) rfl k) ?_
  show ownFin _ _ _ _ _ (T11.setTop (mkF m 53 #[.val (.long q1), .second, .val (.long (own_inv (-4658895280553007687 : Int64))), .second, .val (.long (own_inv (-7723592293110705685 : Int64))), .second, .val (.long (own_x3 q1 31 62)), .second, .val (.long ((own_x3 q1 31 62) * (own_inv (-7723592293110705685 : Int64)))), .second, .val (.long (own_x3 ((own_x3 q1 31 62) * (own_inv (-7723592293110705685 : Int64))) 27 54)), .second, .unset, .unset] [(.long (own_x3 ((own_x3 q1 31 62) * (own_inv (-7723592293110705685 : Int64))) 27 54))]))
  refine ownVia (fun _ k => XS.lloadN X11.here hx rfl (hb hby d4_53) rfl k) ?_
  show ownFin _ _ _ _ _ (T11.setTop (mkF m 54 #[.val (.long q1), .second, .val (.long (own_inv (-4658895280553007687 : Int64))), .second, .val (.long (own_inv (-7723592293110705685 : Int64))), .second, .val (.long (own_x3 q1 31 62)), .second, .val (.long ((own_x3 q1 31 62) * (own_inv (-7723592293110705685 : Int64)))), .second, .val (.long (own_x3 ((own_x3 q1 31 62) * (own_inv (-7723592293110705685 : Int64))) 27 54)), .second, .unset, .unset] [(.long (own_inv (-4658895280553007687 : Int64))), (.long (own_x3 ((own_x3 q1 31 62) * (own_inv (-7723592293110705685 : Int64))) 27 54))]))
  refine ownVia (fun _ k => XS.lmul X11.here hx rfl (hb hby d4_54) rfl k) ?_
  show ownFin _ _ _ _ _ (T11.setTop (mkF m 55 #[.val (.long q1), .second, .val (.long (own_inv (-4658895280553007687 : Int64))), .second, .val (.long (own_inv (-7723592293110705685 : Int64))), .second, .val (.long (own_x3 q1 31 62)), .second, .val (.long ((own_x3 q1 31 62) * (own_inv (-7723592293110705685 : Int64)))), .second, .val (.long (own_x3 ((own_x3 q1 31 62) * (own_inv (-7723592293110705685 : Int64))) 27 54)), .second, .unset, .unset] [(.long ((own_x3 ((own_x3 q1 31 62) * (own_inv (-7723592293110705685 : Int64))) 27 54) * (own_inv (-4658895280553007687 : Int64))))]))
  refine ownVia (fun _ k => XS.lstore X11.here hx rfl (hb hby d4_55) rfl (l' := #[.val (.long q1), .second, .val (.long (own_inv (-4658895280553007687 : Int64))), .second, .val (.long (own_inv (-7723592293110705685 : Int64))), .second, .val (.long (own_x3 q1 31 62)), .second, .val (.long ((own_x3 q1 31 62) * (own_inv (-7723592293110705685 : Int64)))), .second, .val (.long (own_x3 ((own_x3 q1 31 62) * (own_inv (-7723592293110705685 : Int64))) 27 54)), .second, .val (.long ((own_x3 ((own_x3 q1 31 62) * (own_inv (-7723592293110705685 : Int64))) 27 54) * (own_inv (-4658895280553007687 : Int64)))), .second]) rfl k) ?_
  show ownFin _ _ _ _ _ (T11.setTop (mkF m 57 #[.val (.long q1), .second, .val (.long (own_inv (-4658895280553007687 : Int64))), .second, .val (.long (own_inv (-7723592293110705685 : Int64))), .second, .val (.long (own_x3 q1 31 62)), .second, .val (.long ((own_x3 q1 31 62) * (own_inv (-7723592293110705685 : Int64)))), .second, .val (.long (own_x3 ((own_x3 q1 31 62) * (own_inv (-7723592293110705685 : Int64))) 27 54)), .second, .val (.long ((own_x3 ((own_x3 q1 31 62) * (own_inv (-7723592293110705685 : Int64))) 27 54) * (own_inv (-4658895280553007687 : Int64)))), .second] []))
  refine ownVia (fun _ k => XS.lload X11.here hx rfl (hb hby d4_57) rfl k) ?_
  show ownFin _ _ _ _ _ (T11.setTop (mkF m 59 #[.val (.long q1), .second, .val (.long (own_inv (-4658895280553007687 : Int64))), .second, .val (.long (own_inv (-7723592293110705685 : Int64))), .second, .val (.long (own_x3 q1 31 62)), .second, .val (.long ((own_x3 q1 31 62) * (own_inv (-7723592293110705685 : Int64)))), .second, .val (.long (own_x3 ((own_x3 q1 31 62) * (own_inv (-7723592293110705685 : Int64))) 27 54)), .second, .val (.long ((own_x3 ((own_x3 q1 31 62) * (own_inv (-7723592293110705685 : Int64))) 27 54) * (own_inv (-4658895280553007687 : Int64)))), .second] [(.long ((own_x3 ((own_x3 q1 31 62) * (own_inv (-7723592293110705685 : Int64))) 27 54) * (own_inv (-4658895280553007687 : Int64))))]))
  refine ownVia (fun _ k => XS.lload X11.here hx rfl (hb hby d4_59) rfl k) ?_
  show ownFin _ _ _ _ _ (T11.setTop (mkF m 61 #[.val (.long q1), .second, .val (.long (own_inv (-4658895280553007687 : Int64))), .second, .val (.long (own_inv (-7723592293110705685 : Int64))), .second, .val (.long (own_x3 q1 31 62)), .second, .val (.long ((own_x3 q1 31 62) * (own_inv (-7723592293110705685 : Int64)))), .second, .val (.long (own_x3 ((own_x3 q1 31 62) * (own_inv (-7723592293110705685 : Int64))) 27 54)), .second, .val (.long ((own_x3 ((own_x3 q1 31 62) * (own_inv (-7723592293110705685 : Int64))) 27 54) * (own_inv (-4658895280553007687 : Int64)))), .second] [(.long ((own_x3 ((own_x3 q1 31 62) * (own_inv (-7723592293110705685 : Int64))) 27 54) * (own_inv (-4658895280553007687 : Int64)))), (.long ((own_x3 ((own_x3 q1 31 62) * (own_inv (-7723592293110705685 : Int64))) 27 54) * (own_inv (-4658895280553007687 : Int64))))]))
  refine ownVia (fun _ k => XS.bipush X11.here hx rfl (hb hby d4_61) k) ?_
  show ownFin _ _ _ _ _ (T11.setTop (mkF m 63 #[.val (.long q1), .second, .val (.long (own_inv (-4658895280553007687 : Int64))), .second, .val (.long (own_inv (-7723592293110705685 : Int64))), .second, .val (.long (own_x3 q1 31 62)), .second, .val (.long ((own_x3 q1 31 62) * (own_inv (-7723592293110705685 : Int64)))), .second, .val (.long (own_x3 ((own_x3 q1 31 62) * (own_inv (-7723592293110705685 : Int64))) 27 54)), .second, .val (.long ((own_x3 ((own_x3 q1 31 62) * (own_inv (-7723592293110705685 : Int64))) 27 54) * (own_inv (-4658895280553007687 : Int64)))), .second] [(.int (30 : Int32)), (.long ((own_x3 ((own_x3 q1 31 62) * (own_inv (-7723592293110705685 : Int64))) 27 54) * (own_inv (-4658895280553007687 : Int64)))), (.long ((own_x3 ((own_x3 q1 31 62) * (own_inv (-7723592293110705685 : Int64))) 27 54) * (own_inv (-4658895280553007687 : Int64))))]))
  refine ownVia (fun _ k => XS.lushr X11.here hx rfl (hb hby d4_63) rfl k) ?_
  show ownFin _ _ _ _ _ (T11.setTop (mkF m 64 #[.val (.long q1), .second, .val (.long (own_inv (-4658895280553007687 : Int64))), .second, .val (.long (own_inv (-7723592293110705685 : Int64))), .second, .val (.long (own_x3 q1 31 62)), .second, .val (.long ((own_x3 q1 31 62) * (own_inv (-7723592293110705685 : Int64)))), .second, .val (.long (own_x3 ((own_x3 q1 31 62) * (own_inv (-7723592293110705685 : Int64))) 27 54)), .second, .val (.long ((own_x3 ((own_x3 q1 31 62) * (own_inv (-7723592293110705685 : Int64))) 27 54) * (own_inv (-4658895280553007687 : Int64)))), .second] [(.long ((((own_x3 ((own_x3 q1 31 62) * (own_inv (-7723592293110705685 : Int64))) 27 54) * (own_inv (-4658895280553007687 : Int64))).toUInt64 >>> ((30 : Int32) &&& 0x3f).toInt64.toUInt64).toInt64)), (.long ((own_x3 ((own_x3 q1 31 62) * (own_inv (-7723592293110705685 : Int64))) 27 54) * (own_inv (-4658895280553007687 : Int64))))]))
  refine ownVia (fun _ k => XS.lxor X11.here hx rfl (hb hby d4_64) rfl k) ?_
  show ownFin _ _ _ _ _ (T11.setTop (mkF m 65 #[.val (.long q1), .second, .val (.long (own_inv (-4658895280553007687 : Int64))), .second, .val (.long (own_inv (-7723592293110705685 : Int64))), .second, .val (.long (own_x3 q1 31 62)), .second, .val (.long ((own_x3 q1 31 62) * (own_inv (-7723592293110705685 : Int64)))), .second, .val (.long (own_x3 ((own_x3 q1 31 62) * (own_inv (-7723592293110705685 : Int64))) 27 54)), .second, .val (.long ((own_x3 ((own_x3 q1 31 62) * (own_inv (-7723592293110705685 : Int64))) 27 54) * (own_inv (-4658895280553007687 : Int64)))), .second] [(.long (((own_x3 ((own_x3 q1 31 62) * (own_inv (-7723592293110705685 : Int64))) 27 54) * (own_inv (-4658895280553007687 : Int64))) ^^^ ((((own_x3 ((own_x3 q1 31 62) * (own_inv (-7723592293110705685 : Int64))) 27 54) * (own_inv (-4658895280553007687 : Int64))).toUInt64 >>> ((30 : Int32) &&& 0x3f).toInt64.toUInt64).toInt64)))]))
  refine ownVia (fun _ k => XS.lload X11.here hx rfl (hb hby d4_65) rfl k) ?_
  show ownFin _ _ _ _ _ (T11.setTop (mkF m 67 #[.val (.long q1), .second, .val (.long (own_inv (-4658895280553007687 : Int64))), .second, .val (.long (own_inv (-7723592293110705685 : Int64))), .second, .val (.long (own_x3 q1 31 62)), .second, .val (.long ((own_x3 q1 31 62) * (own_inv (-7723592293110705685 : Int64)))), .second, .val (.long (own_x3 ((own_x3 q1 31 62) * (own_inv (-7723592293110705685 : Int64))) 27 54)), .second, .val (.long ((own_x3 ((own_x3 q1 31 62) * (own_inv (-7723592293110705685 : Int64))) 27 54) * (own_inv (-4658895280553007687 : Int64)))), .second] [(.long ((own_x3 ((own_x3 q1 31 62) * (own_inv (-7723592293110705685 : Int64))) 27 54) * (own_inv (-4658895280553007687 : Int64)))), (.long (((own_x3 ((own_x3 q1 31 62) * (own_inv (-7723592293110705685 : Int64))) 27 54) * (own_inv (-4658895280553007687 : Int64))) ^^^ ((((own_x3 ((own_x3 q1 31 62) * (own_inv (-7723592293110705685 : Int64))) 27 54) * (own_inv (-4658895280553007687 : Int64))).toUInt64 >>> ((30 : Int32) &&& 0x3f).toInt64.toUInt64).toInt64)))]))
  refine ownVia (fun _ k => XS.bipush X11.here hx rfl (hb hby d4_67) k) ?_
  show ownFin _ _ _ _ _ (T11.setTop (mkF m 69 #[.val (.long q1), .second, .val (.long (own_inv (-4658895280553007687 : Int64))), .second, .val (.long (own_inv (-7723592293110705685 : Int64))), .second, .val (.long (own_x3 q1 31 62)), .second, .val (.long ((own_x3 q1 31 62) * (own_inv (-7723592293110705685 : Int64)))), .second, .val (.long (own_x3 ((own_x3 q1 31 62) * (own_inv (-7723592293110705685 : Int64))) 27 54)), .second, .val (.long ((own_x3 ((own_x3 q1 31 62) * (own_inv (-7723592293110705685 : Int64))) 27 54) * (own_inv (-4658895280553007687 : Int64)))), .second] [(.int (60 : Int32)), (.long ((own_x3 ((own_x3 q1 31 62) * (own_inv (-7723592293110705685 : Int64))) 27 54) * (own_inv (-4658895280553007687 : Int64)))), (.long (((own_x3 ((own_x3 q1 31 62) * (own_inv (-7723592293110705685 : Int64))) 27 54) * (own_inv (-4658895280553007687 : Int64))) ^^^ ((((own_x3 ((own_x3 q1 31 62) * (own_inv (-7723592293110705685 : Int64))) 27 54) * (own_inv (-4658895280553007687 : Int64))).toUInt64 >>> ((30 : Int32) &&& 0x3f).toInt64.toUInt64).toInt64)))]))
  refine ownVia (fun _ k => XS.lushr X11.here hx rfl (hb hby d4_69) rfl k) ?_
  show ownFin _ _ _ _ _ (T11.setTop (mkF m 70 #[.val (.long q1), .second, .val (.long (own_inv (-4658895280553007687 : Int64))), .second, .val (.long (own_inv (-7723592293110705685 : Int64))), .second, .val (.long (own_x3 q1 31 62)), .second, .val (.long ((own_x3 q1 31 62) * (own_inv (-7723592293110705685 : Int64)))), .second, .val (.long (own_x3 ((own_x3 q1 31 62) * (own_inv (-7723592293110705685 : Int64))) 27 54)), .second, .val (.long ((own_x3 ((own_x3 q1 31 62) * (own_inv (-7723592293110705685 : Int64))) 27 54) * (own_inv (-4658895280553007687 : Int64)))), .second] [(.long ((((own_x3 ((own_x3 q1 31 62) * (own_inv (-7723592293110705685 : Int64))) 27 54) * (own_inv (-4658895280553007687 : Int64))).toUInt64 >>> ((60 : Int32) &&& 0x3f).toInt64.toUInt64).toInt64)), (.long (((own_x3 ((own_x3 q1 31 62) * (own_inv (-7723592293110705685 : Int64))) 27 54) * (own_inv (-4658895280553007687 : Int64))) ^^^ ((((own_x3 ((own_x3 q1 31 62) * (own_inv (-7723592293110705685 : Int64))) 27 54) * (own_inv (-4658895280553007687 : Int64))).toUInt64 >>> ((30 : Int32) &&& 0x3f).toInt64.toUInt64).toInt64)))]))
  refine ownVia (fun _ k => XS.lxor X11.here hx rfl (hb hby d4_70) rfl k) ?_
  show ownFin _ _ _ _ _ (T11.setTop (mkF m 71 #[.val (.long q1), .second, .val (.long (own_inv (-4658895280553007687 : Int64))), .second, .val (.long (own_inv (-7723592293110705685 : Int64))), .second, .val (.long (own_x3 q1 31 62)), .second, .val (.long ((own_x3 q1 31 62) * (own_inv (-7723592293110705685 : Int64)))), .second, .val (.long (own_x3 ((own_x3 q1 31 62) * (own_inv (-7723592293110705685 : Int64))) 27 54)), .second, .val (.long ((own_x3 ((own_x3 q1 31 62) * (own_inv (-7723592293110705685 : Int64))) 27 54) * (own_inv (-4658895280553007687 : Int64)))), .second] [(.long ((((own_x3 ((own_x3 q1 31 62) * (own_inv (-7723592293110705685 : Int64))) 27 54) * (own_inv (-4658895280553007687 : Int64))) ^^^ ((((own_x3 ((own_x3 q1 31 62) * (own_inv (-7723592293110705685 : Int64))) 27 54) * (own_inv (-4658895280553007687 : Int64))).toUInt64 >>> ((30 : Int32) &&& 0x3f).toInt64.toUInt64).toInt64)) ^^^ ((((own_x3 ((own_x3 q1 31 62) * (own_inv (-7723592293110705685 : Int64))) 27 54) * (own_inv (-4658895280553007687 : Int64))).toUInt64 >>> ((60 : Int32) &&& 0x3f).toInt64.toUInt64).toInt64)))]))
  show ownFin _ _ _ _ _ (T11.setTop (mkF m 71 #[.val (.long q1), .second, .val (.long (own_inv (-4658895280553007687 : Int64))), .second, .val (.long (own_inv (-7723592293110705685 : Int64))), .second, .val (.long (own_x3 q1 31 62)), .second, .val (.long ((own_x3 q1 31 62) * (own_inv (-7723592293110705685 : Int64)))), .second, .val (.long (own_x3 ((own_x3 q1 31 62) * (own_inv (-7723592293110705685 : Int64))) 27 54)), .second, .val (.long ((own_x3 ((own_x3 q1 31 62) * (own_inv (-7723592293110705685 : Int64))) 27 54) * (own_inv (-4658895280553007687 : Int64)))), .second] [(.long (own_x3 ((own_x3 ((own_x3 q1 31 62) * (own_inv (-7723592293110705685 : Int64))) 27 54) * (own_inv (-4658895280553007687 : Int64))) 30 60))]))
  show ownFin _ _ _ _ _ (T11.setTop (mkF m 71 #[.val (.long q1), .second, .val (.long (own_inv (-4658895280553007687 : Int64))), .second, .val (.long (own_inv (-7723592293110705685 : Int64))), .second, .val (.long (own_x3 q1 31 62)), .second, .val (.long ((own_x3 q1 31 62) * (own_inv (-7723592293110705685 : Int64)))), .second, .val (.long (own_x3 ((own_x3 q1 31 62) * (own_inv (-7723592293110705685 : Int64))) 27 54)), .second, .val (.long ((own_x3 ((own_x3 q1 31 62) * (own_inv (-7723592293110705685 : Int64))) 27 54) * (own_inv (-4658895280553007687 : Int64)))), .second] [(.long (own_unmix q1))]))
  refine ownRetJ X11 hx hlk hret (hb hby d4_71) (by decide) (by decide) ?_
  show (Q_own_unm Z q1 h0 n0 ) (some (.long (own_unmix q1))) T11.heap _
  rw [e11]
  exact ⟨rfl, N11, rfl⟩
theorem own_ef12 (m : MethodId) (q1 : Int64) : entryFrame m #[(.long q1)] maxLocals = mkF m 0 #[.val (.long q1), .second, .unset, .unset, .unset, .unset, .unset, .unset, .unset, .unset, .unset] [] := by first | (simp [entryFrame, mkF, argsToLocals, Value.category, maxLocals]; done) | rfl
def Q_own_law (Z : State) (q1 : Int64) (h0 : Heap) (n0 : Nat)  : Option Value → Heap → List Loc → Prop := fun v h L => v = some (.int 1) ∧ Fr n0 L
theorem own_pd1 : parseMethodDescriptor "(J)V" = some ⟨[.long], none⟩ := by decide +kernel
theorem own_pd2 : parseMethodDescriptor "()J" = some ⟨[], some .long⟩ := by decide +kernel
set_option maxRecDepth 65536 in
set_option maxHeartbeats 40000000 in
theorem own_law (l : Launch) (Z : State) (a0 : Array Value) (hw : ∀ d ∈ tables_1, d.before a0 Z = true) (ws : List Jvm.Cond) (q1 : Int64) (h0 : Heap) (n0 : Nat)  (Z0 : n0 ≤ h0.size)  :
    ownMet l Z x code maxLocals ret ws room_1 #[(.long q1)] h0 (Q_own_law Z q1 h0 n0 ) := by
  refine ownBody (plainFor_of_name own_pn1) ?_
  intro p e s m below meth c T0 hx hby hml hret hlk hZ hown hnm X0 e0
  have N0 : Fr n0 [] := Fr.nil n0
  have hown : s.vm.findClass "com/example/oubliette/oubliette/engine/SeededRandomNextLongPinLaw" = some m.cls := hown
  refine ownVia (fun _ k => castTop (own_ef12 m q1) k) ?_
  show ownFin _ _ _ _ _ (T0.setTop (mkF m 0 #[.val (.long q1), .second, .unset, .unset, .unset, .unset, .unset, .unset, .unset, .unset, .unset] []))
  refine ownVia (fun _ k => X0.ldc2Long hx hown (mvT hZ (hw _ (List.mem_of_getElem? (i := 0) rfl))) (g := (mkF m 0 #[.val (.long q1), .second, .unset, .unset, .unset, .unset, .unset, .unset, .unset, .unset, .unset] [])) rfl (hb hby at_0) _ k) ?_
  show ownFin _ _ _ _ _ (T0.setTop (mkF m 3 #[.val (.long q1), .second, .unset, .unset, .unset, .unset, .unset, .unset, .unset, .unset, .unset] [(.long (-7046029254386353131 : Int64))]))
  refine ownVia (fun _ k => XS.lstoreN X0.here hx rfl (hb hby at_3) rfl (l' := #[.val (.long q1), .second, .val (.long (-7046029254386353131 : Int64)), .second, .unset, .unset, .unset, .unset, .unset, .unset, .unset]) rfl k) ?_
  show ownFin _ _ _ _ _ (T0.setTop (mkF m 4 #[.val (.long q1), .second, .val (.long (-7046029254386353131 : Int64)), .second, .unset, .unset, .unset, .unset, .unset, .unset, .unset] []))
  obtain ⟨T13, h13, X13, e13, E13, A13, D13, -, st13⟩ := newO X0 hx hZ hown (hw _ (List.mem_of_getElem? (i := 1) rfl)) (hw _ (List.mem_of_getElem? (i := 2) rfl)) (hw _ (List.mem_of_getElem? (i := 3) rfl)) e0 (g := (mkF m 4 #[.val (.long q1), .second, .val (.long (-7046029254386353131 : Int64)), .second, .unset, .unset, .unset, .unset, .unset, .unset, .unset] [])) rfl (hb hby at_4) (by decide) (by decide)
  obtain ⟨b1, g13⟩ : ∃ z, z = h0.size := ⟨_, rfl⟩
  rw [← g13] at A13 D13 st13
  have ge_b1 : n0 ≤ b1 := Nat.le_trans Z0 (Nat.le_of_eq g13.symm)
  have Z0 := own_sz Z0 E13
  have E_b1 := A13
  have F_b1_state : Fld Z h13 b1 "com/example/oubliette/oubliette/engine/SeededRandom" "state" "J" (.long (0 : Int64)) := D13 (Or.inl (hw _ (List.mem_of_getElem? (i := 11) rfl))) (ty := .long) (by decide)
  refine ownVia st13 ?_
  show ownFin _ _ _ _ _ (T13.setTop (mkF m 7 #[.val (.long q1), .second, .val (.long (-7046029254386353131 : Int64)), .second, .unset, .unset, .unset, .unset, .unset, .unset, .unset] [(.ref b1)]))
  refine ownVia (fun _ k => XS.dup X13.here hx rfl (hb hby at_7) rfl rfl k) ?_
  show ownFin _ _ _ _ _ (T13.setTop (mkF m 8 #[.val (.long q1), .second, .val (.long (-7046029254386353131 : Int64)), .second, .unset, .unset, .unset, .unset, .unset, .unset, .unset] [(.ref b1), (.ref b1)]))
  refine ownVia (fun _ k => XS.lloadN X13.here hx rfl (hb hby at_8) rfl k) ?_
  show ownFin _ _ _ _ _ (T13.setTop (mkF m 9 #[.val (.long q1), .second, .val (.long (-7046029254386353131 : Int64)), .second, .unset, .unset, .unset, .unset, .unset, .unset, .unset] [(.long q1), (.ref b1), (.ref b1)]))
  refine ownCallN X13 hx hZ hown rfl (hw _ (List.mem_of_getElem? (i := 4) rfl)) (hw _ (List.mem_of_getElem? (i := 5) rfl)) (hw _ (List.mem_of_getElem? (i := 3) rfl)) (hw _ (List.mem_of_getElem? (i := 6) rfl)) (by decide) e13 (own_init l Z a0 hw b1 q1 h13 n0 Z0 F_b1_state E_b1 ge_b1) (by rw [hml]; rfl) b1 [(.long q1)] [(.ref b1)] (lenOf own_pd1 rfl) rfl rfl 1 rfl (hb hby at_9) (by decide) (by decide) (by decide) (by decide) ?_
  intro v14 T14 L14 X14 hq14
  obtain ⟨rfl, N14q, K14, F_b1_state⟩ := hq14
  have E_b1 := E_b1.keep K14
  have Z0 := Nat.le_trans Z0 K14.1
  have N14 := Fr.app N0 N14q
  show ownFin _ _ _ _ _ (T14.setTop (mkF m 12 #[.val (.long q1), .second, .val (.long (-7046029254386353131 : Int64)), .second, .unset, .unset, .unset, .unset, .unset, .unset, .unset] [(.ref b1)]))
  refine ownVia (fun _ k => XS.astore X14.here hx rfl (hb hby at_12) rfl rfl (l' := #[.val (.long q1), .second, .val (.long (-7046029254386353131 : Int64)), .second, .val (.ref b1), .unset, .unset, .unset, .unset, .unset, .unset]) rfl k) ?_
  show ownFin _ _ _ _ _ (T14.setTop (mkF m 14 #[.val (.long q1), .second, .val (.long (-7046029254386353131 : Int64)), .second, .val (.ref b1), .unset, .unset, .unset, .unset, .unset, .unset] []))
  refine ownVia (fun _ k => XS.aload X14.here hx rfl (hb hby at_14) rfl rfl k) ?_
  show ownFin _ _ _ _ _ (T14.setTop (mkF m 16 #[.val (.long q1), .second, .val (.long (-7046029254386353131 : Int64)), .second, .val (.ref b1), .unset, .unset, .unset, .unset, .unset, .unset] [(.ref b1)]))
  refine ownCallV X14 hx hZ hown (hw _ (List.mem_of_getElem? (i := 12) rfl)) (hw _ (List.mem_of_getElem? (i := 13) rfl)) (hw _ (List.mem_of_getElem? (i := 15) rfl)) (hw _ (List.mem_of_getElem? (i := 15) rfl)) (hw _ (List.mem_of_getElem? (i := 14) rfl)) (hw _ (List.mem_of_getElem? (i := 3) rfl)) (hw _ (List.mem_of_getElem? (i := 16) rfl)) (by decide) (rfl : T14.heap = T14.heap) E_b1 (own_next l Z a0 hw b1 T14.heap n0 q1 Z0 F_b1_state E_b1 ge_b1) (by rw [hml]; rfl) [] [] (lenOf own_pd2 rfl) rfl rfl 0 rfl (hb hby at_16) (by decide) (by decide) (by decide) (by decide) ?_
  intro v15 T15 L15 X15 hq15
  obtain ⟨rfl, N15q, K15, F_b1_state⟩ := hq15
  have E_b1 := E_b1.keep K15
  have Z0 := Nat.le_trans Z0 K15.1
  have N15 := Fr.app N14 N15q
  show ownFin _ _ _ _ _ (T15.setTop (mkF m 19 #[.val (.long q1), .second, .val (.long (-7046029254386353131 : Int64)), .second, .val (.ref b1), .unset, .unset, .unset, .unset, .unset, .unset] [(.long (own_mix (q1 + (-7046029254386353131 : Int64))))]))
  refine ownVia (fun _ k => XS.lstore X15.here hx rfl (hb hby at_19) rfl (l' := #[.val (.long q1), .second, .val (.long (-7046029254386353131 : Int64)), .second, .val (.ref b1), .val (.long (own_mix (q1 + (-7046029254386353131 : Int64)))), .second, .unset, .unset, .unset, .unset]) rfl k) ?_
  show ownFin _ _ _ _ _ (T15.setTop (mkF m 21 #[.val (.long q1), .second, .val (.long (-7046029254386353131 : Int64)), .second, .val (.ref b1), .val (.long (own_mix (q1 + (-7046029254386353131 : Int64)))), .second, .unset, .unset, .unset, .unset] []))
  refine ownVia (fun _ k => XS.aload X15.here hx rfl (hb hby at_21) rfl rfl k) ?_
  show ownFin _ _ _ _ _ (T15.setTop (mkF m 23 #[.val (.long q1), .second, .val (.long (-7046029254386353131 : Int64)), .second, .val (.ref b1), .val (.long (own_mix (q1 + (-7046029254386353131 : Int64)))), .second, .unset, .unset, .unset, .unset] [(.ref b1)]))
  refine ownCallV X15 hx hZ hown (hw _ (List.mem_of_getElem? (i := 12) rfl)) (hw _ (List.mem_of_getElem? (i := 13) rfl)) (hw _ (List.mem_of_getElem? (i := 15) rfl)) (hw _ (List.mem_of_getElem? (i := 15) rfl)) (hw _ (List.mem_of_getElem? (i := 14) rfl)) (hw _ (List.mem_of_getElem? (i := 3) rfl)) (hw _ (List.mem_of_getElem? (i := 16) rfl)) (by decide) (rfl : T15.heap = T15.heap) E_b1 (own_next l Z a0 hw b1 T15.heap n0 (q1 + (-7046029254386353131 : Int64)) Z0 F_b1_state E_b1 ge_b1) (by rw [hml]; rfl) [] [] (lenOf own_pd2 rfl) rfl rfl 0 rfl (hb hby at_23) (by decide) (by decide) (by decide) (by decide) ?_
  intro v16 T16 L16 X16 hq16
  obtain ⟨rfl, N16q, K16, F_b1_state⟩ := hq16
  have E_b1 := E_b1.keep K16
  have Z0 := Nat.le_trans Z0 K16.1
  have N16 := Fr.app N15 N16q
  show ownFin _ _ _ _ _ (T16.setTop (mkF m 26 #[.val (.long q1), .second, .val (.long (-7046029254386353131 : Int64)), .second, .val (.ref b1), .val (.long (own_mix (q1 + (-7046029254386353131 : Int64)))), .second, .unset, .unset, .unset, .unset] [(.long (own_mix ((q1 + (-7046029254386353131 : Int64)) + (-7046029254386353131 : Int64))))]))
  refine ownVia (fun _ k => XS.lstore X16.here hx rfl (hb hby at_26) rfl (l' := #[.val (.long q1), .second, .val (.long (-7046029254386353131 : Int64)), .second, .val (.ref b1), .val (.long (own_mix (q1 + (-7046029254386353131 : Int64)))), .second, .val (.long (own_mix ((q1 + (-7046029254386353131 : Int64)) + (-7046029254386353131 : Int64)))), .second, .unset, .unset]) rfl k) ?_
  show ownFin _ _ _ _ _ (T16.setTop (mkF m 28 #[.val (.long q1), .second, .val (.long (-7046029254386353131 : Int64)), .second, .val (.ref b1), .val (.long (own_mix (q1 + (-7046029254386353131 : Int64)))), .second, .val (.long (own_mix ((q1 + (-7046029254386353131 : Int64)) + (-7046029254386353131 : Int64)))), .second, .unset, .unset] []))
  refine ownVia (fun _ k => XS.aload X16.here hx rfl (hb hby at_28) rfl rfl k) ?_
  show ownFin _ _ _ _ _ (T16.setTop (mkF m 30 #[.val (.long q1), .second, .val (.long (-7046029254386353131 : Int64)), .second, .val (.ref b1), .val (.long (own_mix (q1 + (-7046029254386353131 : Int64)))), .second, .val (.long (own_mix ((q1 + (-7046029254386353131 : Int64)) + (-7046029254386353131 : Int64)))), .second, .unset, .unset] [(.ref b1)]))
  refine ownCallV X16 hx hZ hown (hw _ (List.mem_of_getElem? (i := 12) rfl)) (hw _ (List.mem_of_getElem? (i := 13) rfl)) (hw _ (List.mem_of_getElem? (i := 15) rfl)) (hw _ (List.mem_of_getElem? (i := 15) rfl)) (hw _ (List.mem_of_getElem? (i := 14) rfl)) (hw _ (List.mem_of_getElem? (i := 3) rfl)) (hw _ (List.mem_of_getElem? (i := 16) rfl)) (by decide) (rfl : T16.heap = T16.heap) E_b1 (own_next l Z a0 hw b1 T16.heap n0 ((q1 + (-7046029254386353131 : Int64)) + (-7046029254386353131 : Int64)) Z0 F_b1_state E_b1 ge_b1) (by rw [hml]; rfl) [] [] (lenOf own_pd2 rfl) rfl rfl 0 rfl (hb hby at_30) (by decide) (by decide) (by decide) (by decide) ?_
  intro v17 T17 L17 X17 hq17
  obtain ⟨rfl, N17q, K17, F_b1_state⟩ := hq17
  have E_b1 := E_b1.keep K17
  have Z0 := Nat.le_trans Z0 K17.1
  have N17 := Fr.app N16 N17q
  show ownFin _ _ _ _ _ (T17.setTop (mkF m 33 #[.val (.long q1), .second, .val (.long (-7046029254386353131 : Int64)), .second, .val (.ref b1), .val (.long (own_mix (q1 + (-7046029254386353131 : Int64)))), .second, .val (.long (own_mix ((q1 + (-7046029254386353131 : Int64)) + (-7046029254386353131 : Int64)))), .second, .unset, .unset] [(.long (own_mix (((q1 + (-7046029254386353131 : Int64)) + (-7046029254386353131 : Int64)) + (-7046029254386353131 : Int64))))]))
  refine ownVia (fun _ k => XS.lstore X17.here hx rfl (hb hby at_33) rfl (l' := #[.val (.long q1), .second, .val (.long (-7046029254386353131 : Int64)), .second, .val (.ref b1), .val (.long (own_mix (q1 + (-7046029254386353131 : Int64)))), .second, .val (.long (own_mix ((q1 + (-7046029254386353131 : Int64)) + (-7046029254386353131 : Int64)))), .second, .val (.long (own_mix (((q1 + (-7046029254386353131 : Int64)) + (-7046029254386353131 : Int64)) + (-7046029254386353131 : Int64)))), .second]) rfl k) ?_
  show ownFin _ _ _ _ _ (T17.setTop (mkF m 35 #[.val (.long q1), .second, .val (.long (-7046029254386353131 : Int64)), .second, .val (.ref b1), .val (.long (own_mix (q1 + (-7046029254386353131 : Int64)))), .second, .val (.long (own_mix ((q1 + (-7046029254386353131 : Int64)) + (-7046029254386353131 : Int64)))), .second, .val (.long (own_mix (((q1 + (-7046029254386353131 : Int64)) + (-7046029254386353131 : Int64)) + (-7046029254386353131 : Int64)))), .second] []))
  refine ownVia (fun _ k => XS.lload X17.here hx rfl (hb hby at_35) rfl k) ?_
  show ownFin _ _ _ _ _ (T17.setTop (mkF m 37 #[.val (.long q1), .second, .val (.long (-7046029254386353131 : Int64)), .second, .val (.ref b1), .val (.long (own_mix (q1 + (-7046029254386353131 : Int64)))), .second, .val (.long (own_mix ((q1 + (-7046029254386353131 : Int64)) + (-7046029254386353131 : Int64)))), .second, .val (.long (own_mix (((q1 + (-7046029254386353131 : Int64)) + (-7046029254386353131 : Int64)) + (-7046029254386353131 : Int64)))), .second] [(.long (own_mix (q1 + (-7046029254386353131 : Int64))))]))
  refine ownCallS X17 hx hZ hown (hw _ (List.mem_of_getElem? (i := 20) rfl)) (hw _ (List.mem_of_getElem? (i := 21) rfl)) (hw _ (List.mem_of_getElem? (i := 22) rfl)) (hw _ (List.mem_of_getElem? (i := 23) rfl)) (by decide) (rfl : T17.heap = T17.heap) (own_unm l Z a0 hw (own_mix (q1 + (-7046029254386353131 : Int64))) T17.heap n0 Z0) (by rw [hml]; rfl) [(.long (own_mix (q1 + (-7046029254386353131 : Int64))))] [] (lenOf own_pd0 rfl) rfl rfl 0 rfl (hb hby at_37) (by decide) (by decide) (by decide) (by decide) ?_
  intro v18 T18 L18 X18 hq18
  obtain ⟨rfl, N18q, eq18⟩ := hq18
  have N18 := Fr.app N17 N18q
  have e18 : T18.heap = T17.heap := eq18
  show ownFin _ _ _ _ _ (T18.setTop (mkF m 40 #[.val (.long q1), .second, .val (.long (-7046029254386353131 : Int64)), .second, .val (.ref b1), .val (.long (own_mix (q1 + (-7046029254386353131 : Int64)))), .second, .val (.long (own_mix ((q1 + (-7046029254386353131 : Int64)) + (-7046029254386353131 : Int64)))), .second, .val (.long (own_mix (((q1 + (-7046029254386353131 : Int64)) + (-7046029254386353131 : Int64)) + (-7046029254386353131 : Int64)))), .second] [(.long (own_unmix (own_mix (q1 + (-7046029254386353131 : Int64)))))]))
  refine ownVia (fun _ k => XS.lloadN X18.here hx rfl (hb hby at_40) rfl k) ?_
  show ownFin _ _ _ _ _ (T18.setTop (mkF m 41 #[.val (.long q1), .second, .val (.long (-7046029254386353131 : Int64)), .second, .val (.ref b1), .val (.long (own_mix (q1 + (-7046029254386353131 : Int64)))), .second, .val (.long (own_mix ((q1 + (-7046029254386353131 : Int64)) + (-7046029254386353131 : Int64)))), .second, .val (.long (own_mix (((q1 + (-7046029254386353131 : Int64)) + (-7046029254386353131 : Int64)) + (-7046029254386353131 : Int64)))), .second] [(.long q1), (.long (own_unmix (own_mix (q1 + (-7046029254386353131 : Int64)))))]))
  refine ownVia (fun _ k => XS.lloadN X18.here hx rfl (hb hby at_41) rfl k) ?_
  show ownFin _ _ _ _ _ (T18.setTop (mkF m 42 #[.val (.long q1), .second, .val (.long (-7046029254386353131 : Int64)), .second, .val (.ref b1), .val (.long (own_mix (q1 + (-7046029254386353131 : Int64)))), .second, .val (.long (own_mix ((q1 + (-7046029254386353131 : Int64)) + (-7046029254386353131 : Int64)))), .second, .val (.long (own_mix (((q1 + (-7046029254386353131 : Int64)) + (-7046029254386353131 : Int64)) + (-7046029254386353131 : Int64)))), .second] [(.long (-7046029254386353131 : Int64)), (.long q1), (.long (own_unmix (own_mix (q1 + (-7046029254386353131 : Int64)))))]))
  refine ownVia (fun _ k => XS.ladd X18.here hx rfl (hb hby at_42) rfl k) ?_
  show ownFin _ _ _ _ _ (T18.setTop (mkF m 43 #[.val (.long q1), .second, .val (.long (-7046029254386353131 : Int64)), .second, .val (.ref b1), .val (.long (own_mix (q1 + (-7046029254386353131 : Int64)))), .second, .val (.long (own_mix ((q1 + (-7046029254386353131 : Int64)) + (-7046029254386353131 : Int64)))), .second, .val (.long (own_mix (((q1 + (-7046029254386353131 : Int64)) + (-7046029254386353131 : Int64)) + (-7046029254386353131 : Int64)))), .second] [(.long (q1 + (-7046029254386353131 : Int64))), (.long (own_unmix (own_mix (q1 + (-7046029254386353131 : Int64)))))]))
  refine ownVia (fun _ k => XS.lcmp X18.here hx rfl (hb hby at_43) rfl k) ?_
  show ownFin _ _ _ _ _ (T18.setTop (mkF m 44 #[.val (.long q1), .second, .val (.long (-7046029254386353131 : Int64)), .second, .val (.ref b1), .val (.long (own_mix (q1 + (-7046029254386353131 : Int64)))), .second, .val (.long (own_mix ((q1 + (-7046029254386353131 : Int64)) + (-7046029254386353131 : Int64)))), .second, .val (.long (own_mix (((q1 + (-7046029254386353131 : Int64)) + (-7046029254386353131 : Int64)) + (-7046029254386353131 : Int64)))), .second] [(.int (lcmpW (own_unmix (own_mix (q1 + (-7046029254386353131 : Int64)))) (q1 + (-7046029254386353131 : Int64))))]))
  refine ownVia (fun _ k => XS.ifNo X18.here hx rfl (hb hby at_44) rfl ((if0 _ _).trans (teq ((lw_eq _ _).mpr (own_um _))).2) k) ?_
  show ownFin _ _ _ _ _ (T18.setTop (mkF m 47 #[.val (.long q1), .second, .val (.long (-7046029254386353131 : Int64)), .second, .val (.ref b1), .val (.long (own_mix (q1 + (-7046029254386353131 : Int64)))), .second, .val (.long (own_mix ((q1 + (-7046029254386353131 : Int64)) + (-7046029254386353131 : Int64)))), .second, .val (.long (own_mix (((q1 + (-7046029254386353131 : Int64)) + (-7046029254386353131 : Int64)) + (-7046029254386353131 : Int64)))), .second] []))
  refine ownVia (fun _ k => XS.lload X18.here hx rfl (hb hby at_47) rfl k) ?_
  show ownFin _ _ _ _ _ (T18.setTop (mkF m 49 #[.val (.long q1), .second, .val (.long (-7046029254386353131 : Int64)), .second, .val (.ref b1), .val (.long (own_mix (q1 + (-7046029254386353131 : Int64)))), .second, .val (.long (own_mix ((q1 + (-7046029254386353131 : Int64)) + (-7046029254386353131 : Int64)))), .second, .val (.long (own_mix (((q1 + (-7046029254386353131 : Int64)) + (-7046029254386353131 : Int64)) + (-7046029254386353131 : Int64)))), .second] [(.long (own_mix ((q1 + (-7046029254386353131 : Int64)) + (-7046029254386353131 : Int64))))]))
  refine ownCallS X18 hx hZ hown (hw _ (List.mem_of_getElem? (i := 20) rfl)) (hw _ (List.mem_of_getElem? (i := 21) rfl)) (hw _ (List.mem_of_getElem? (i := 22) rfl)) (hw _ (List.mem_of_getElem? (i := 23) rfl)) (by decide) e18 (own_unm l Z a0 hw (own_mix ((q1 + (-7046029254386353131 : Int64)) + (-7046029254386353131 : Int64))) T17.heap n0 Z0) (by rw [hml]; rfl) [(.long (own_mix ((q1 + (-7046029254386353131 : Int64)) + (-7046029254386353131 : Int64))))] [] (lenOf own_pd0 rfl) rfl rfl 0 rfl (hb hby at_49) (by decide) (by decide) (by decide) (by decide) ?_
  intro v19 T19 L19 X19 hq19
  obtain ⟨rfl, N19q, eq19⟩ := hq19
  have N19 := Fr.app N18 N19q
  have e19 : T19.heap = T17.heap := eq19
  show ownFin _ _ _ _ _ (T19.setTop (mkF m 52 #[.val (.long q1), .second, .val (.long (-7046029254386353131 : Int64)), .second, .val (.ref b1), .val (.long (own_mix (q1 + (-7046029254386353131 : Int64)))), .second, .val (.long (own_mix ((q1 + (-7046029254386353131 : Int64)) + (-7046029254386353131 : Int64)))), .second, .val (.long (own_mix (((q1 + (-7046029254386353131 : Int64)) + (-7046029254386353131 : Int64)) + (-7046029254386353131 : Int64)))), .second] [(.long (own_unmix (own_mix ((q1 + (-7046029254386353131 : Int64)) + (-7046029254386353131 : Int64)))))]))
  refine ownVia (fun _ k => XS.lloadN X19.here hx rfl (hb hby at_52) rfl k) ?_
  show ownFin _ _ _ _ _ (T19.setTop (mkF m 53 #[.val (.long q1), .second, .val (.long (-7046029254386353131 : Int64)), .second, .val (.ref b1), .val (.long (own_mix (q1 + (-7046029254386353131 : Int64)))), .second, .val (.long (own_mix ((q1 + (-7046029254386353131 : Int64)) + (-7046029254386353131 : Int64)))), .second, .val (.long (own_mix (((q1 + (-7046029254386353131 : Int64)) + (-7046029254386353131 : Int64)) + (-7046029254386353131 : Int64)))), .second] [(.long q1), (.long (own_unmix (own_mix ((q1 + (-7046029254386353131 : Int64)) + (-7046029254386353131 : Int64)))))]))
  refine ownVia (fun _ k => X19.ldc2Long hx hown (mvT hZ (hw _ (List.mem_of_getElem? (i := 28) rfl))) (g := (mkF m 53 #[.val (.long q1), .second, .val (.long (-7046029254386353131 : Int64)), .second, .val (.ref b1), .val (.long (own_mix (q1 + (-7046029254386353131 : Int64)))), .second, .val (.long (own_mix ((q1 + (-7046029254386353131 : Int64)) + (-7046029254386353131 : Int64)))), .second, .val (.long (own_mix (((q1 + (-7046029254386353131 : Int64)) + (-7046029254386353131 : Int64)) + (-7046029254386353131 : Int64)))), .second] [(.long q1), (.long (own_unmix (own_mix ((q1 + (-7046029254386353131 : Int64)) + (-7046029254386353131 : Int64)))))])) rfl (hb hby at_53) _ k) ?_
  show ownFin _ _ _ _ _ (T19.setTop (mkF m 56 #[.val (.long q1), .second, .val (.long (-7046029254386353131 : Int64)), .second, .val (.ref b1), .val (.long (own_mix (q1 + (-7046029254386353131 : Int64)))), .second, .val (.long (own_mix ((q1 + (-7046029254386353131 : Int64)) + (-7046029254386353131 : Int64)))), .second, .val (.long (own_mix (((q1 + (-7046029254386353131 : Int64)) + (-7046029254386353131 : Int64)) + (-7046029254386353131 : Int64)))), .second] [(.long (2 : Int64)), (.long q1), (.long (own_unmix (own_mix ((q1 + (-7046029254386353131 : Int64)) + (-7046029254386353131 : Int64)))))]))
  refine ownVia (fun _ k => XS.lloadN X19.here hx rfl (hb hby at_56) rfl k) ?_
  show ownFin _ _ _ _ _ (T19.setTop (mkF m 57 #[.val (.long q1), .second, .val (.long (-7046029254386353131 : Int64)), .second, .val (.ref b1), .val (.long (own_mix (q1 + (-7046029254386353131 : Int64)))), .second, .val (.long (own_mix ((q1 + (-7046029254386353131 : Int64)) + (-7046029254386353131 : Int64)))), .second, .val (.long (own_mix (((q1 + (-7046029254386353131 : Int64)) + (-7046029254386353131 : Int64)) + (-7046029254386353131 : Int64)))), .second] [(.long (-7046029254386353131 : Int64)), (.long (2 : Int64)), (.long q1), (.long (own_unmix (own_mix ((q1 + (-7046029254386353131 : Int64)) + (-7046029254386353131 : Int64)))))]))
  refine ownVia (fun _ k => XS.lmul X19.here hx rfl (hb hby at_57) rfl k) ?_
  show ownFin _ _ _ _ _ (T19.setTop (mkF m 58 #[.val (.long q1), .second, .val (.long (-7046029254386353131 : Int64)), .second, .val (.ref b1), .val (.long (own_mix (q1 + (-7046029254386353131 : Int64)))), .second, .val (.long (own_mix ((q1 + (-7046029254386353131 : Int64)) + (-7046029254386353131 : Int64)))), .second, .val (.long (own_mix (((q1 + (-7046029254386353131 : Int64)) + (-7046029254386353131 : Int64)) + (-7046029254386353131 : Int64)))), .second] [(.long ((2 : Int64) * (-7046029254386353131 : Int64))), (.long q1), (.long (own_unmix (own_mix ((q1 + (-7046029254386353131 : Int64)) + (-7046029254386353131 : Int64)))))]))
  refine ownVia (fun _ k => XS.ladd X19.here hx rfl (hb hby at_58) rfl k) ?_
  show ownFin _ _ _ _ _ (T19.setTop (mkF m 59 #[.val (.long q1), .second, .val (.long (-7046029254386353131 : Int64)), .second, .val (.ref b1), .val (.long (own_mix (q1 + (-7046029254386353131 : Int64)))), .second, .val (.long (own_mix ((q1 + (-7046029254386353131 : Int64)) + (-7046029254386353131 : Int64)))), .second, .val (.long (own_mix (((q1 + (-7046029254386353131 : Int64)) + (-7046029254386353131 : Int64)) + (-7046029254386353131 : Int64)))), .second] [(.long (q1 + ((2 : Int64) * (-7046029254386353131 : Int64)))), (.long (own_unmix (own_mix ((q1 + (-7046029254386353131 : Int64)) + (-7046029254386353131 : Int64)))))]))
  refine ownVia (fun _ k => XS.lcmp X19.here hx rfl (hb hby at_59) rfl k) ?_
  show ownFin _ _ _ _ _ (T19.setTop (mkF m 60 #[.val (.long q1), .second, .val (.long (-7046029254386353131 : Int64)), .second, .val (.ref b1), .val (.long (own_mix (q1 + (-7046029254386353131 : Int64)))), .second, .val (.long (own_mix ((q1 + (-7046029254386353131 : Int64)) + (-7046029254386353131 : Int64)))), .second, .val (.long (own_mix (((q1 + (-7046029254386353131 : Int64)) + (-7046029254386353131 : Int64)) + (-7046029254386353131 : Int64)))), .second] [(.int (lcmpW (own_unmix (own_mix ((q1 + (-7046029254386353131 : Int64)) + (-7046029254386353131 : Int64)))) (q1 + ((2 : Int64) * (-7046029254386353131 : Int64)))))]))
  refine ownVia (fun _ k => XS.ifNo X19.here hx rfl (hb hby at_60) rfl ((if0 _ _).trans (teq ((lw_eq _ _).mpr (own_um2 _))).2) k) ?_
  show ownFin _ _ _ _ _ (T19.setTop (mkF m 63 #[.val (.long q1), .second, .val (.long (-7046029254386353131 : Int64)), .second, .val (.ref b1), .val (.long (own_mix (q1 + (-7046029254386353131 : Int64)))), .second, .val (.long (own_mix ((q1 + (-7046029254386353131 : Int64)) + (-7046029254386353131 : Int64)))), .second, .val (.long (own_mix (((q1 + (-7046029254386353131 : Int64)) + (-7046029254386353131 : Int64)) + (-7046029254386353131 : Int64)))), .second] []))
  refine ownVia (fun _ k => XS.lload X19.here hx rfl (hb hby at_63) rfl k) ?_
  show ownFin _ _ _ _ _ (T19.setTop (mkF m 65 #[.val (.long q1), .second, .val (.long (-7046029254386353131 : Int64)), .second, .val (.ref b1), .val (.long (own_mix (q1 + (-7046029254386353131 : Int64)))), .second, .val (.long (own_mix ((q1 + (-7046029254386353131 : Int64)) + (-7046029254386353131 : Int64)))), .second, .val (.long (own_mix (((q1 + (-7046029254386353131 : Int64)) + (-7046029254386353131 : Int64)) + (-7046029254386353131 : Int64)))), .second] [(.long (own_mix (((q1 + (-7046029254386353131 : Int64)) + (-7046029254386353131 : Int64)) + (-7046029254386353131 : Int64))))]))
  refine ownCallS X19 hx hZ hown (hw _ (List.mem_of_getElem? (i := 20) rfl)) (hw _ (List.mem_of_getElem? (i := 21) rfl)) (hw _ (List.mem_of_getElem? (i := 22) rfl)) (hw _ (List.mem_of_getElem? (i := 23) rfl)) (by decide) e19 (own_unm l Z a0 hw (own_mix (((q1 + (-7046029254386353131 : Int64)) + (-7046029254386353131 : Int64)) + (-7046029254386353131 : Int64))) T17.heap n0 Z0) (by rw [hml]; rfl) [(.long (own_mix (((q1 + (-7046029254386353131 : Int64)) + (-7046029254386353131 : Int64)) + (-7046029254386353131 : Int64))))] [] (lenOf own_pd0 rfl) rfl rfl 0 rfl (hb hby at_65) (by decide) (by decide) (by decide) (by decide) ?_
  intro v20 T20 L20 X20 hq20
  obtain ⟨rfl, N20q, eq20⟩ := hq20
  have N20 := Fr.app N19 N20q
  have e20 : T20.heap = T17.heap := eq20
  show ownFin _ _ _ _ _ (T20.setTop (mkF m 68 #[.val (.long q1), .second, .val (.long (-7046029254386353131 : Int64)), .second, .val (.ref b1), .val (.long (own_mix (q1 + (-7046029254386353131 : Int64)))), .second, .val (.long (own_mix ((q1 + (-7046029254386353131 : Int64)) + (-7046029254386353131 : Int64)))), .second, .val (.long (own_mix (((q1 + (-7046029254386353131 : Int64)) + (-7046029254386353131 : Int64)) + (-7046029254386353131 : Int64)))), .second] [(.long (own_unmix (own_mix (((q1 + (-7046029254386353131 : Int64)) + (-7046029254386353131 : Int64)) + (-7046029254386353131 : Int64)))))]))
  refine ownVia (fun _ k => XS.lloadN X20.here hx rfl (hb hby at_68) rfl k) ?_
  show ownFin _ _ _ _ _ (T20.setTop (mkF m 69 #[.val (.long q1), .second, .val (.long (-7046029254386353131 : Int64)), .second, .val (.ref b1), .val (.long (own_mix (q1 + (-7046029254386353131 : Int64)))), .second, .val (.long (own_mix ((q1 + (-7046029254386353131 : Int64)) + (-7046029254386353131 : Int64)))), .second, .val (.long (own_mix (((q1 + (-7046029254386353131 : Int64)) + (-7046029254386353131 : Int64)) + (-7046029254386353131 : Int64)))), .second] [(.long q1), (.long (own_unmix (own_mix (((q1 + (-7046029254386353131 : Int64)) + (-7046029254386353131 : Int64)) + (-7046029254386353131 : Int64)))))]))
  refine ownVia (fun _ k => X20.ldc2Long hx hown (mvT hZ (hw _ (List.mem_of_getElem? (i := 30) rfl))) (g := (mkF m 69 #[.val (.long q1), .second, .val (.long (-7046029254386353131 : Int64)), .second, .val (.ref b1), .val (.long (own_mix (q1 + (-7046029254386353131 : Int64)))), .second, .val (.long (own_mix ((q1 + (-7046029254386353131 : Int64)) + (-7046029254386353131 : Int64)))), .second, .val (.long (own_mix (((q1 + (-7046029254386353131 : Int64)) + (-7046029254386353131 : Int64)) + (-7046029254386353131 : Int64)))), .second] [(.long q1), (.long (own_unmix (own_mix (((q1 + (-7046029254386353131 : Int64)) + (-7046029254386353131 : Int64)) + (-7046029254386353131 : Int64)))))])) rfl (hb hby at_69) _ k) ?_
  show ownFin _ _ _ _ _ (T20.setTop (mkF m 72 #[.val (.long q1), .second, .val (.long (-7046029254386353131 : Int64)), .second, .val (.ref b1), .val (.long (own_mix (q1 + (-7046029254386353131 : Int64)))), .second, .val (.long (own_mix ((q1 + (-7046029254386353131 : Int64)) + (-7046029254386353131 : Int64)))), .second, .val (.long (own_mix (((q1 + (-7046029254386353131 : Int64)) + (-7046029254386353131 : Int64)) + (-7046029254386353131 : Int64)))), .second] [(.long (3 : Int64)), (.long q1), (.long (own_unmix (own_mix (((q1 + (-7046029254386353131 : Int64)) + (-7046029254386353131 : Int64)) + (-7046029254386353131 : Int64)))))]))
  refine ownVia (fun _ k => XS.lloadN X20.here hx rfl (hb hby at_72) rfl k) ?_
  show ownFin _ _ _ _ _ (T20.setTop (mkF m 73 #[.val (.long q1), .second, .val (.long (-7046029254386353131 : Int64)), .second, .val (.ref b1), .val (.long (own_mix (q1 + (-7046029254386353131 : Int64)))), .second, .val (.long (own_mix ((q1 + (-7046029254386353131 : Int64)) + (-7046029254386353131 : Int64)))), .second, .val (.long (own_mix (((q1 + (-7046029254386353131 : Int64)) + (-7046029254386353131 : Int64)) + (-7046029254386353131 : Int64)))), .second] [(.long (-7046029254386353131 : Int64)), (.long (3 : Int64)), (.long q1), (.long (own_unmix (own_mix (((q1 + (-7046029254386353131 : Int64)) + (-7046029254386353131 : Int64)) + (-7046029254386353131 : Int64)))))]))
  refine ownVia (fun _ k => XS.lmul X20.here hx rfl (hb hby at_73) rfl k) ?_
  show ownFin _ _ _ _ _ (T20.setTop (mkF m 74 #[.val (.long q1), .second, .val (.long (-7046029254386353131 : Int64)), .second, .val (.ref b1), .val (.long (own_mix (q1 + (-7046029254386353131 : Int64)))), .second, .val (.long (own_mix ((q1 + (-7046029254386353131 : Int64)) + (-7046029254386353131 : Int64)))), .second, .val (.long (own_mix (((q1 + (-7046029254386353131 : Int64)) + (-7046029254386353131 : Int64)) + (-7046029254386353131 : Int64)))), .second] [(.long ((3 : Int64) * (-7046029254386353131 : Int64))), (.long q1), (.long (own_unmix (own_mix (((q1 + (-7046029254386353131 : Int64)) + (-7046029254386353131 : Int64)) + (-7046029254386353131 : Int64)))))]))
  refine ownVia (fun _ k => XS.ladd X20.here hx rfl (hb hby at_74) rfl k) ?_
  show ownFin _ _ _ _ _ (T20.setTop (mkF m 75 #[.val (.long q1), .second, .val (.long (-7046029254386353131 : Int64)), .second, .val (.ref b1), .val (.long (own_mix (q1 + (-7046029254386353131 : Int64)))), .second, .val (.long (own_mix ((q1 + (-7046029254386353131 : Int64)) + (-7046029254386353131 : Int64)))), .second, .val (.long (own_mix (((q1 + (-7046029254386353131 : Int64)) + (-7046029254386353131 : Int64)) + (-7046029254386353131 : Int64)))), .second] [(.long (q1 + ((3 : Int64) * (-7046029254386353131 : Int64)))), (.long (own_unmix (own_mix (((q1 + (-7046029254386353131 : Int64)) + (-7046029254386353131 : Int64)) + (-7046029254386353131 : Int64)))))]))
  refine ownVia (fun _ k => XS.lcmp X20.here hx rfl (hb hby at_75) rfl k) ?_
  show ownFin _ _ _ _ _ (T20.setTop (mkF m 76 #[.val (.long q1), .second, .val (.long (-7046029254386353131 : Int64)), .second, .val (.ref b1), .val (.long (own_mix (q1 + (-7046029254386353131 : Int64)))), .second, .val (.long (own_mix ((q1 + (-7046029254386353131 : Int64)) + (-7046029254386353131 : Int64)))), .second, .val (.long (own_mix (((q1 + (-7046029254386353131 : Int64)) + (-7046029254386353131 : Int64)) + (-7046029254386353131 : Int64)))), .second] [(.int (lcmpW (own_unmix (own_mix (((q1 + (-7046029254386353131 : Int64)) + (-7046029254386353131 : Int64)) + (-7046029254386353131 : Int64)))) (q1 + ((3 : Int64) * (-7046029254386353131 : Int64)))))]))
  refine ownVia (fun _ k => XS.ifNo X20.here hx rfl (hb hby at_76) rfl ((if0 _ _).trans (teq ((lw_eq _ _).mpr (own_um3 _))).2) k) ?_
  show ownFin _ _ _ _ _ (T20.setTop (mkF m 79 #[.val (.long q1), .second, .val (.long (-7046029254386353131 : Int64)), .second, .val (.ref b1), .val (.long (own_mix (q1 + (-7046029254386353131 : Int64)))), .second, .val (.long (own_mix ((q1 + (-7046029254386353131 : Int64)) + (-7046029254386353131 : Int64)))), .second, .val (.long (own_mix (((q1 + (-7046029254386353131 : Int64)) + (-7046029254386353131 : Int64)) + (-7046029254386353131 : Int64)))), .second] []))
  refine ownVia (fun _ k => XS.iconst X20.here hx rfl (hb hby at_79) k) ?_
  show ownFin _ _ _ _ _ (T20.setTop (mkF m 80 #[.val (.long q1), .second, .val (.long (-7046029254386353131 : Int64)), .second, .val (.ref b1), .val (.long (own_mix (q1 + (-7046029254386353131 : Int64)))), .second, .val (.long (own_mix ((q1 + (-7046029254386353131 : Int64)) + (-7046029254386353131 : Int64)))), .second, .val (.long (own_mix (((q1 + (-7046029254386353131 : Int64)) + (-7046029254386353131 : Int64)) + (-7046029254386353131 : Int64)))), .second] [(.int (1 : Int32))]))
  refine ownVia (fun _ k => XS.goto X20.here hx rfl (pc0 := 80) (pc' := 84) rfl (hb hby at_80) (by decide) (by decide) k) ?_
  show ownFin _ _ _ _ _ (T20.setTop (mkF m 84 #[.val (.long q1), .second, .val (.long (-7046029254386353131 : Int64)), .second, .val (.ref b1), .val (.long (own_mix (q1 + (-7046029254386353131 : Int64)))), .second, .val (.long (own_mix ((q1 + (-7046029254386353131 : Int64)) + (-7046029254386353131 : Int64)))), .second, .val (.long (own_mix (((q1 + (-7046029254386353131 : Int64)) + (-7046029254386353131 : Int64)) + (-7046029254386353131 : Int64)))), .second] [(.int (1 : Int32))]))
  refine ownRetZ X20 hx hlk hret (hb hby at_84) (by decide) (by decide) (Or.inr rfl) ?_
  show (Q_own_law Z q1 h0 n0 ) (some (.int (1 : Int32))) T20.heap _
  rw [e20]
  exact ⟨rfl, N20⟩
set_option maxRecDepth 65536 in
set_option maxHeartbeats 40000000 in
theorem own_comes {Post : Tables → Env → Array Value → State → Outcome → State → Prop} (hpost : ∀ tb e args s v u, (limb_1_1.after args s (.returned v) u = true ∧ limb_1_2.after args s (.returned v) u = true ∧ True) → FrameEnd s (.returned v) u (Jvm.fieldLocs frame_1_writes args s ++ Jvm.arrayLocs frame_1_arrays args s ++ Jvm.staticLocs frame_1_statics s) 16 128 → Post tb e args s (.returned v) u) :
    ArmFor flags0 classFile x code maxLocals ret World_1 tables_1 room_1 Calls_1 rest_1 Pre_1 Post := by
  intro l hfl _ _ p e ha hc hk s m args below hf hA hF happ hP
  obtain ⟨hcalls, hrest, hpre⟩ := hP
  obtain ⟨-, -, -, hnamed, -, -, -, hat⟩ := (Spec.applies_iff hf).mp happ
  obtain ⟨hg, hn⟩ := and_e (Cond.before_iff.mp (show (Jvm.Cond.and given_1 narrow_1).before args s = true from hpre))
  obtain ⟨hcount, hg0⟩ := and_e hg
  obtain ⟨w0, rfl⟩ : ∃ w0 : Value, args = #[w0] := by
    have hs : args.size = 1 := by simpa [Cond.value, given_1] using hcount
    obtain ⟨L⟩ := args
    match L, hs with
    | [w0], _ => exact ⟨w0, rfl⟩
  have hw := fun d (hd : d ∈ tables_1) => atoms_spec (ws := Jvm.Cond.code x code maxLocals ret :: tables_1) hat d (List.mem_cons_of_mem _ hd)
  have hfit : Fit s := fun {y c} hc i hi => by
    obtain ⟨ha, rfl⟩ := Array.getElem?_eq_some_iff.mp hc
    have q := List.all_eq_true.mp ((Array.all_eq_true_iff_forall_mem.mp hF) _ (Array.getElem_mem ha)) i (List.mem_range.mpr hi)
    simpa [Array.getElem?_eq_getElem hi] using q
  obtain ⟨i0, ei0⟩ := isL_v hg0
  obtain rfl : w0 = (.long i0) := Option.some.inj ei0
  obtain ⟨n, o, h1, h2, h3, _, L, rfl, ⟨rfl, N⟩, hq⟩ := own_law l s _ hw tables_1 i0 s.heap s.heap.size  (Nat.le_refl _)  p e ha hc hk s m _ below hf ((Spec.applies_iff_loose hf).mp happ).1 ⟨rfl, State.Warmed39.refl s, rfl⟩ trivial
  refine ⟨n, _, h1, h2, h3, hpost _ _ _ _ _ _ ⟨Cond.after_iff.mpr rfl, Cond.after_iff.mpr (eq_i res_at (Term.int_eval (1)) rfl), trivial⟩ ⟨hq.1, hq.2.1, (hq.2.2.sift fun y hy => Or.inr (N y hy)).mono (by decide) (by decide)⟩⟩
theorem main_1_1 : Claimed_1_1 := own_comes fun _ _ _ _ _ _ h hF => ⟨h.1, hF⟩
theorem main_1_2 : Claimed_1_2 := own_comes fun _ _ _ _ _ _ h hF => ⟨h.2.1, hF⟩
end Jvm.Pilot.@@N@@
namespace Jvm.Pilot.@@N@@
open Jvm Jvm.ClassFile Sem Op Lib Jvm.Free Jvm.Stand Jvm.Pilot.@@N@@.Jvm.D
/-! MADE BY PROGRAM (witnessworld.py) out of the Statement's table words and the real class files: 7 classes; the members and pool entries that the words name. The judged class is class 1, her method 3. -/
namespace start1
open Jvm.ClassFile
def u (s : String) : CpInfo := .utf8 (stringToUtf16 s)
/-- a pool by its gaps: so many unusable entries, then the entry; so many at the end -/
def gap : Nat → List CpInfo → List CpInfo
  | 0, r => r
  | n + 1, r => .unusable :: gap n r
def poolList (es : List (Nat × CpInfo)) (last : Nat) : List CpInfo := es.foldr (fun e r => gap e.1 (e.2 :: r)) (gap last [])
def pool (es : List (Nat × CpInfo)) (last : Nat) : Array CpInfo := ⟨poolList es last⟩
def fileOf (pool : Array CpInfo) (this : Nat) (attrs : Array Attribute := #[]) (ms : Array MethodInfo := #[]) (fl : Nat := 33) (sup : Nat := 0) (ifs : Array Nat := #[]) (fds : Array FieldInfo := #[]) : ClassFile where
  minorVersion := 0
  majorVersion := 65
  constantPool := pool
  accessFlags := fl
  thisClass := this
  superClass := sup
  interfaces := ifs
  fields := fds
  methods := ms
  attributes := attrs
def plain (name : String) (sup : Option ClassId) : Class where
  name := name
  kind := .ordinary
  loader := none
  accessFlags := 33
  super := sup
  interfaces := #[]
  cf := none
  fields := #[]
  methods := #[]
  instanceTypes := #[]
  staticTypes := #[]
  resolved := #[]
  callSites := []
  init := .initialized
  statics := none
  mirror := none

def pool0 : Array CpInfo := pool [(5, u "<init>"), (0, u "()V"), (1, .class_ 10), (1, u "java/lang/Object")] 113

def k0c0 : Code := { maxStack := 0, maxLocals := 1, code := object_method_1_code, exceptionTable := #[], attributes := #[] }
def k0m0 : Method := { name := "<init>", desc := "()V", sig := { parameters := [], returnType := none }, accessFlags := 1, code := some k0c0 }
/-- java/lang/Object -/
def k0 : Class := { plain "java/lang/Object" none with
  accessFlags := 33
  interfaces := #[]
  cf := some (fileOf pool0 8 #[] #[{ accessFlags := 1, nameIndex := 5, descriptorIndex := 6, attributes := #[] }] 33 0 #[] #[])
  fields := #[]
  methods := #[k0m0]
  instanceTypes := #[]
  staticTypes := #[]
  resolved := Array.replicate 124 none
  statics := none }

def pool1 : Array CpInfo := pool [(2, .class_ 4), (1, u "java/lang/Object"), (0, u "<init>"), (0, u "()V"), (0, .long 2), (1, .long 13787848793156543929), (1, .methodref 12 13), (0, .class_ 14), (0, .nameAndType 15 16), (0, u "com/example/oubliette/oubliette/engine/SeededRandomNextLongPinLaw"), (0, u "inverse"), (0, u "(J)J"), (0, .long 10723151780598845931), (1, .long 11400714819323198485), (1, .class_ 22), (0, u "com/example/oubliette/oubliette/engine/SeededRandom"), (0, .methodref 21 24), (0, .nameAndType 5 25), (0, u "(J)V"), (0, .methodref 21 27), (0, .nameAndType 28 29), (0, u "nextLong"), (0, u "()J"), (0, .methodref 12 31), (0, .nameAndType 32 16), (0, u "unmix"), (0, .long 3), (3, u "law"), (0, u "(J)Z")] 3

def k1m0 : Method := { name := "<init>", desc := "()V", sig := { parameters := [], returnType := none }, accessFlags := 1, code := none }
def k1c1 : Code := { maxStack := 8, maxLocals := 4, code := method_2_code, exceptionTable := #[], attributes := #[] }
def k1m1 : Method := { name := "inverse", desc := "(J)J", sig := { parameters := [.long], returnType := some .long }, accessFlags := 10, code := some k1c1 }
def k1c2 : Code := { maxStack := 5, maxLocals := 14, code := method_3_code, exceptionTable := #[], attributes := #[] }
def k1m2 : Method := { name := "unmix", desc := "(J)J", sig := { parameters := [.long], returnType := some .long }, accessFlags := 10, code := some k1c2 }
def k1c3 : Code := { maxStack := 8, maxLocals := 11, code := code, exceptionTable := #[], attributes := #[] }
def k1m3 : Method := { name := "law", desc := "(J)Z", sig := { parameters := [.long], returnType := some .boolean }, accessFlags := 9, code := some k1c3 }
/-- com/example/oubliette/oubliette/engine/SeededRandomNextLongPinLaw -/
def k1 : Class := { plain "com/example/oubliette/oubliette/engine/SeededRandomNextLongPinLaw" (some 0) with
  accessFlags := 49
  interfaces := #[]
  cf := some (fileOf pool1 12 #[] #[{ accessFlags := 1, nameIndex := 5, descriptorIndex := 6, attributes := #[] }, { accessFlags := 10, nameIndex := 15, descriptorIndex := 16, attributes := #[] }, { accessFlags := 10, nameIndex := 32, descriptorIndex := 16, attributes := #[] }, { accessFlags := 9, nameIndex := 37, descriptorIndex := 38, attributes := #[] }] 49 2 #[] #[])
  fields := #[]
  methods := #[k1m0, k1m1, k1m2, k1m3]
  instanceTypes := #[]
  staticTypes := #[]
  resolved := Array.replicate 42 none
  statics := none }

def pool2 : Array CpInfo := pool [(1, .methodref 2 3), (0, .class_ 4), (0, .nameAndType 5 6), (0, u "java/lang/Object"), (0, u "<init>"), (0, u "()V"), (0, .fieldref 8 9), (0, .class_ 10), (0, .nameAndType 11 12), (0, u "com/example/oubliette/oubliette/engine/SeededRandom"), (0, u "state"), (0, u "J"), (0, .long 11400714819323198485), (1, .long 13787848793156543929), (1, .long 10723151780598845931), (16, u "nextLong"), (0, u "()J"), (0, u "GAMMA"), (1, u "MIX_1"), (0, u "MIX_2"), (0, u "(J)V")] 22

def k2c0 : Code := { maxStack := 3, maxLocals := 3, code := prog_24_method_1_code, exceptionTable := #[], attributes := #[] }
def k2m0 : Method := { name := "<init>", desc := "(J)V", sig := { parameters := [.long], returnType := none }, accessFlags := 0, code := some k2c0 }
def k2c1 : Code := { maxStack := 5, maxLocals := 3, code := prog_24_method_2_code, exceptionTable := #[], attributes := #[] }
def k2m1 : Method := { name := "nextLong", desc := "()J", sig := { parameters := [], returnType := some .long }, accessFlags := 0, code := some k2c1 }
/-- com/example/oubliette/oubliette/engine/SeededRandom -/
def k2 : Class := { plain "com/example/oubliette/oubliette/engine/SeededRandom" (some 0) with
  accessFlags := 48
  interfaces := #[]
  cf := some (fileOf pool2 8 #[] #[{ accessFlags := 0, nameIndex := 5, descriptorIndex := 40, attributes := #[] }, { accessFlags := 0, nameIndex := 34, descriptorIndex := 35, attributes := #[] }] 48 2 #[] #[{ accessFlags := 26, nameIndex := 36, descriptorIndex := 12, attributes := #[] }, { accessFlags := 26, nameIndex := 38, descriptorIndex := 12, attributes := #[] }, { accessFlags := 26, nameIndex := 39, descriptorIndex := 12, attributes := #[] }, { accessFlags := 2, nameIndex := 11, descriptorIndex := 12, attributes := #[] }])
  fields := #[{ name := "GAMMA", type := .long, accessFlags := 26, slot := 0, constantValue := 0 }, { name := "MIX_1", type := .long, accessFlags := 26, slot := 1, constantValue := 0 }, { name := "MIX_2", type := .long, accessFlags := 26, slot := 2, constantValue := 0 }, { name := "state", type := .long, accessFlags := 2, slot := 0, constantValue := 0 }]
  methods := #[k2m0, k2m1]
  instanceTypes := #[.long]
  staticTypes := #[.long, .long, .long]
  resolved := Array.replicate 63 none
  statics := none }

def pool3 : Array CpInfo := pool [(1, u "java/lang/Cloneable"), (0, .class_ 1), (0, u "java/lang/Object"), (0, .class_ 3)] 3

/-- java/lang/Cloneable -/
def k3 : Class := { plain "java/lang/Cloneable" (some 0) with
  accessFlags := 1537
  interfaces := #[]
  cf := some (fileOf pool3 2 #[] #[] 1537 4 #[] #[])
  fields := #[]
  methods := #[]
  instanceTypes := #[]
  staticTypes := #[]
  resolved := Array.replicate 8 none
  statics := none }

def pool4 : Array CpInfo := pool [(1, u "java/io/Serializable"), (0, .class_ 1), (0, u "java/lang/Object"), (0, .class_ 3)] 3

/-- java/io/Serializable -/
def k4 : Class := { plain "java/io/Serializable" (some 0) with
  accessFlags := 1537
  interfaces := #[]
  cf := some (fileOf pool4 2 #[] #[] 1537 4 #[] #[])
  fields := #[]
  methods := #[]
  instanceTypes := #[]
  staticTypes := #[]
  resolved := Array.replicate 8 none
  statics := none }

/-- the primitive byte -/
def k5 : Class := { plain "byte" none with kind := .primitive 'B', accessFlags := 0x411 }
/-- [B -/
def k6 : Class := { plain "[B" (some 0) with kind := .array 5 .byte, interfaces := #[3, 4], accessFlags := 1041 }

def heap : Heap := #[]
def classes : Array Class := #[k0, k1, k2, k3, k4, k5, k6]
def interned : List (Array UInt16 × Addr) := []
def slotsUsed : Nat := 0
def theMethod : MethodId := ⟨1, 3⟩
def args0 : Array Value := #[.long 5]
def aboutOver (below : List Frame) : State where
  vm := { classes := classes, interned := interned.toArray }
  heap := heap
  slotsUsed := slotsUsed
  threads := #[{ frames := .invoking theMethod args0 :: below }]
def below0 : List Frame := [.native { method := ⟨0, 0⟩, args := #[] }]
def about1 : State := aboutOver below0
def p0 : Program := .bare "" "" ""
def e0 : Env := launch0.env 0 0 0
theorem w_frames : about1.frames = Frame.invoking theMethod args0 :: below0 := rfl
set_option maxRecDepth 65536 in
theorem w_args : argsFit about1.vm theMethod args0 = true := by decide +kernel
set_option maxRecDepth 65536 in
theorem w_heap : heapFits about1 = true := by decide +kernel
set_option maxRecDepth 65536 in
theorem w_runnable : about1.curStatus? = some .runnable := by decide +kernel
set_option maxRecDepth 65536 in
theorem w_alone : about1.alone = true := by decide +kernel
set_option maxRecDepth 65536 in
theorem w_named : about1.methodNamed? x = some theMethod := by decide +kernel
set_option maxRecDepth 65536 in
theorem w_hears : about1.hears theMethod below0 = true := by decide +kernel
set_option maxRecDepth 65536 in
theorem w_ripe : about1.ripe theMethod args0 below0 = true := by decide +kernel
theorem w_running : about1.status = .running := rfl
set_option maxRecDepth 65536 in
theorem w_room : about1.hasRoom e0.platform room_1 = true :=
  launch0.hasRoom_least _ room_1 (by decide +kernel) (by decide +kernel) (by decide +kernel) (by decide +kernel) (by decide +kernel) (by decide +kernel)
theorem allAtoms_all (ts : List Jvm.Cond) (a : Array Jvm.Value) (st : Jvm.State) : (allAtoms ts).before a st = ts.all (fun c => c.before a st) := by
  induction ts with
  | nil => rfl
  | cons c t ih =>
    show (Jvm.Cond.and c (allAtoms t)).before a st = _
    rw [Jvm.Cond.before_and, ih, List.all_cons]
def words1 : List Jvm.Cond := Jvm.Cond.code x code maxLocals ret :: tables_1
/-- a 'code' word, met by the world's own term for the bytes: nothing is compared byte by byte -/
theorem code_word {y : MethodName} {bytes : ByteArray} {mx : Nat} {rt : Option FieldType} {a : Array Value} {s : State} {m : MethodId} {meth : Method} {c : Code} (h1 : s.methodNamed? y = some m) (h2 : s.vm.method? m = some meth) (h3 : meth.code = some c) (h4 : c.code = bytes)
    (h5 : (c.maxLocals == mx && c.exceptionTable.isEmpty && decide (c.maxStack ≤ mostOperands) && decide (meth.sig.returnType = rt) && !meth.locks && decide (parseMethodDescriptor y.desc = some meth.sig)) = true) : (Jvm.Cond.code y bytes mx rt).before a s = true := by
  simp only [Bool.and_eq_true, beq_iff_eq, Bool.not_eq_true', decide_eq_true_eq] at h5
  obtain ⟨⟨⟨⟨⟨g1, g2⟩, g3⟩, g4⟩, g5⟩, g6⟩ := h5
  simp [Cond.before, Cond.holds, Cond.value, h1, h2, h3, h4, g1, g2, g3, g4, g5, g6]
def isCode : Jvm.Cond → Bool
  | .code _ _ _ _ => true
  | _ => false
theorem all_split {L : List Jvm.Cond} {P : Jvm.Cond → Bool} (h1 : L.all (fun c => isCode c || P c) = true) (h2 : ∀ c ∈ L.filter isCode, P c = true) : L.all P = true := by
  refine List.all_eq_true.mpr fun c hc => ?_
  have h := List.all_eq_true.mp h1 c hc
  rcases Bool.eq_false_or_eq_true (isCode c) with hi | hi
  · exact h2 c (List.mem_filter.mpr ⟨hc, hi⟩)
  · simpa [hi] using h
set_option maxRecDepth 65536 in
theorem w_c0 : (Jvm.Cond.code x code maxLocals ret).before args0 about1 = true := code_word (m := ⟨1, 3⟩) (meth := k1m3) (c := k1c3) (by decide +kernel) rfl rfl rfl (by decide +kernel)
set_option maxRecDepth 65536 in
theorem w_c1 : (Jvm.Cond.code ({ cls := "com/example/oubliette/oubliette/engine/SeededRandom", name := "<init>", desc := "(J)V" } : Jvm.MethodName) prog_24_method_1_code (3 : Nat) (Option.none : Option Jvm.ClassFile.FieldType)).before args0 about1 = true := code_word (m := ⟨2, 0⟩) (meth := k2m0) (c := k2c0) (by decide +kernel) rfl rfl rfl (by decide +kernel)
set_option maxRecDepth 65536 in
theorem w_c2 : (Jvm.Cond.code ({ cls := "java/lang/Object", name := "<init>", desc := "()V" } : Jvm.MethodName) object_method_1_code (1 : Nat) (Option.none : Option Jvm.ClassFile.FieldType)).before args0 about1 = true := code_word (m := ⟨0, 0⟩) (meth := k0m0) (c := k0c0) (by decide +kernel) rfl rfl rfl (by decide +kernel)
set_option maxRecDepth 65536 in
theorem w_c3 : (Jvm.Cond.code ({ cls := "com/example/oubliette/oubliette/engine/SeededRandom", name := "nextLong", desc := "()J" } : Jvm.MethodName) prog_24_method_2_code (3 : Nat) (Option.some Jvm.ClassFile.FieldType.long)).before args0 about1 = true := code_word (m := ⟨2, 1⟩) (meth := k2m1) (c := k2c1) (by decide +kernel) rfl rfl rfl (by decide +kernel)
set_option maxRecDepth 65536 in
theorem w_c4 : (Jvm.Cond.code ({ cls := "com/example/oubliette/oubliette/engine/SeededRandomNextLongPinLaw", name := "unmix", desc := "(J)J" } : Jvm.MethodName) method_3_code (14 : Nat) (Option.some Jvm.ClassFile.FieldType.long)).before args0 about1 = true := code_word (m := ⟨1, 2⟩) (meth := k1m2) (c := k1c2) (by decide +kernel) rfl rfl rfl (by decide +kernel)
set_option maxRecDepth 65536 in
theorem w_c5 : (Jvm.Cond.code ({ cls := "com/example/oubliette/oubliette/engine/SeededRandomNextLongPinLaw", name := "inverse", desc := "(J)J" } : Jvm.MethodName) method_2_code (4 : Nat) (Option.some Jvm.ClassFile.FieldType.long)).before args0 about1 = true := code_word (m := ⟨1, 1⟩) (meth := k1m1) (c := k1c1) (by decide +kernel) rfl rfl rfl (by decide +kernel)
def codes1 : List Jvm.Cond := [Jvm.Cond.code x code maxLocals ret, Jvm.Cond.code ({ cls := "com/example/oubliette/oubliette/engine/SeededRandom", name := "<init>", desc := "(J)V" } : Jvm.MethodName) prog_24_method_1_code (3 : Nat) (Option.none : Option Jvm.ClassFile.FieldType), Jvm.Cond.code ({ cls := "java/lang/Object", name := "<init>", desc := "()V" } : Jvm.MethodName) object_method_1_code (1 : Nat) (Option.none : Option Jvm.ClassFile.FieldType), Jvm.Cond.code ({ cls := "com/example/oubliette/oubliette/engine/SeededRandom", name := "nextLong", desc := "()J" } : Jvm.MethodName) prog_24_method_2_code (3 : Nat) (Option.some Jvm.ClassFile.FieldType.long), Jvm.Cond.code ({ cls := "com/example/oubliette/oubliette/engine/SeededRandomNextLongPinLaw", name := "unmix", desc := "(J)J" } : Jvm.MethodName) method_3_code (14 : Nat) (Option.some Jvm.ClassFile.FieldType.long), Jvm.Cond.code ({ cls := "com/example/oubliette/oubliette/engine/SeededRandomNextLongPinLaw", name := "inverse", desc := "(J)J" } : Jvm.MethodName) method_2_code (4 : Nat) (Option.some Jvm.ClassFile.FieldType.long)]
set_option maxRecDepth 65536 in
theorem codes_eq : words1.filter isCode = codes1 := rfl
theorem w_codes : ∀ c ∈ words1.filter isCode, c.before args0 about1 = true := by
  rw [codes_eq]
  intro c hc
  simp only [codes1, List.mem_cons, List.not_mem_nil, or_false] at hc
  rcases hc with rfl | rfl | rfl | rfl | rfl | rfl
  · exact w_c0
  · exact w_c1
  · exact w_c2
  · exact w_c3
  · exact w_c4
  · exact w_c5
set_option maxRecDepth 65536 in
theorem w_t1 : (words1.take 24).all (fun c => isCode c || c.before args0 about1) = true := by decide +kernel
set_option maxRecDepth 65536 in
theorem w_t2 : (words1.drop 24).all (fun c => isCode c || c.before args0 about1) = true := by decide +kernel
theorem w_tables : (allAtoms (Jvm.Cond.code x code maxLocals ret :: tables_1)).before args0 about1 = true := by
  rw [allAtoms_all]
  show words1.all (fun c => c.before args0 about1) = true
  refine all_split ?_ w_codes
  rw [← List.take_append_drop 24 words1, List.all_append, w_t1, w_t2]
  rfl
set_option maxRecDepth 65536 in
theorem w_case : (Jvm.Cond.and given_1 narrow_1).before args0 about1 = true := by decide +kernel
theorem w_applies : (headSpec (Jvm.Cond.code x code maxLocals ret :: tables_1) room_1).applies x e0.platform about1 = true :=
  (Spec.applies_iff w_frames).mpr ⟨w_running, w_runnable, w_alone, w_named, w_hears, w_ripe, w_room, w_tables⟩
theorem atStart : AtStart classFile x code maxLocals ret World_1 tables_1 room_1 Calls_1 rest_1 Pre_1 launch0 p0 e0 about1 theMethod args0 below0 :=
  ⟨lists_1, trivial, launch0.admits_env _ _ _, launch0.least_env, fairChoices_fair.cas, fairChoices_fair.clock, w_frames, w_args, w_heap, w_applies, trivial, trivial, w_case⟩
end start1
theorem witness_1 : WitnessClaimed_1 := ⟨start1.p0, start1.e0, start1.about1, start1.theMethod, start1.args0, start1.below0, start1.atStart⟩
end Jvm.Pilot.@@N@@
