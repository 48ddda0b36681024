import JvmDerived
import JvmDerived.Pilot.@@N@@Statement
import JvmDerived.Pilot.@@N@@Code
set_option linter.unusedVariables false
set_option linter.unusedSimpArgs false
namespace Jvm.Pilot.@@N@@
open Jvm Jvm.ClassFile Sem Op Lib Jvm.Free Jvm.Stand Jvm.LawKit Jvm.RoadKit Bundle Jvm.Pilot.@@N@@.Jvm.D
section Own
variable {p : Program} {l : Launch} {e : Env} {R : Room} {s : State} {m : MethodId} {args : Array Value} {below : List Frame} {meth : Method} {c : Code} {T : State} {locs : List Loc} {cells slots : Nat} {Z : State} {a0 : Array Value} {h : Heap} {Q : Option Value → Heap → List Loc → Prop} {C S : Nat} {u u' : State} {F : Outcome → State → List Loc → Prop}
/-- from u the invocation comes to its end, and Q holds of what it returns, of the heap and of the places written -/
def ownFin (p : Program) (e : Env) (below : List Frame) (F : Outcome → State → List Loc → Prop) (Q : Option Value → Heap → List Loc → Prop) (u : State) : Prop :=
  ∃ t o, Steps p.tables e below u t ∧ t.status = .running ∧ Ended t below o ∧ ∃ v L, o = .returned v ∧ Q v t.heap L ∧ F o t L
/-- how it ends: at most C new cells of S slots, the tables warmer, nothing old written but at the places L -/
def ownFE (s : State) (C S : Nat) : Outcome → State → List Loc → Prop := fun o t L => FrameEnd s o t L C S
theorem ownVia (f : ∀ t, Steps p.tables e below u' t → Steps p.tables e below u t) (k : ownFin p e below F Q u') : ownFin p e below F Q u := by
  obtain ⟨t, o, h1, r⟩ := k
  exact ⟨t, o, f t h1, r⟩
theorem ownRet (X : Stand p l e R s m args below meth c T locs cells slots) (hlk : meth.locks = false) {v : Option Value} (hv : meth.sig.returnType = none → v = none)
    (f : ∀ fs, (∀ (f : JFrame) (acts : List Action), f.method = m → f.locked = none → f.entered = [] → (doReturn e (T.setTop f) acts v).1 = T.setFrames fs) → Steps p.tables e below u (T.setFrames fs))
    (hC : cells ≤ C) (hS : slots ≤ S) (hQ : Q v T.heap locs) : ownFin p e below (ownFE s C S) Q u := by
  obtain ⟨fs, hr, hrun, hended, hW, hsame⟩ := X.leave (v := v) hv hlk
  exact ⟨_, _, f fs hr, hrun, hended, v, _, rfl, hQ, ⟨_, rfl⟩, hW, hsame.mono hC hS⟩
theorem ownRetI (X : Stand p l e R s m args below meth c T locs cells slots) (hx : p.tables.exec = Jvm.exec) (hlk : meth.locks = false) (hret : meth.sig.returnType = some .int) {pc : Nat} {Ls : Array Slot} {z : Int32} {rest : List Value} (hd : decode c.code pc = .ok (.ireturn, 1)) (hC : cells ≤ C) (hS : slots ≤ S) (hQ : Q (some (.int z)) T.heap locs) : ownFin p e below (ownFE s C S) Q (T.setTop (mkF m pc Ls (.int z :: rest))) :=
  ownRet X hlk (v := some (.int z)) (fun q => by rw [hret] at q; cases q) (fun fs hr => retOut X hx hret rfl (Or.inl ⟨rfl, Or.inl rfl, z, rfl⟩) hd hr) hC hS hQ
theorem ownRetZ (X : Stand p l e R s m args below meth c T locs cells slots) (hx : p.tables.exec = Jvm.exec) (hlk : meth.locks = false) (hret : meth.sig.returnType = some .boolean) {pc : Nat} {Ls : Array Slot} {z : Int32} {rest : List Value} (hd : decode c.code pc = .ok (.ireturn, 1)) (hC : cells ≤ C) (hS : slots ≤ S) (hz : z = 0 ∨ z = 1) (hQ : Q (some (.int z)) T.heap locs) : ownFin p e below (ownFE s C S) Q (T.setTop (mkF m pc Ls (.int z :: rest))) :=
  ownRet X hlk (v := some (.int z)) (fun q => by rw [hret] at q; cases q) (fun fs hr => retOut X hx hret (by rcases hz with rfl | rfl <;> rfl) (Or.inl ⟨rfl, Or.inr (Or.inl rfl), z, rfl⟩) hd hr) hC hS hQ
theorem ownRetJ (X : Stand p l e R s m args below meth c T locs cells slots) (hx : p.tables.exec = Jvm.exec) (hlk : meth.locks = false) (hret : meth.sig.returnType = some .long) {pc : Nat} {Ls : Array Slot} {z : Int64} {rest : List Value} (hd : decode c.code pc = .ok (.lreturn, 1)) (hC : cells ≤ C) (hS : slots ≤ S) (hQ : Q (some (.long z)) T.heap locs) : ownFin p e below (ownFE s C S) Q (T.setTop (mkF m pc Ls (.long z :: rest))) :=
  ownRet X hlk (v := some (.long z)) (fun q => by rw [hret] at q; cases q) (fun fs hr => retOut X hx hret rfl (Or.inr (Or.inl ⟨rfl, rfl, z, rfl⟩)) hd hr) hC hS hQ
theorem ownRetA (X : Stand p l e R s m args below meth c T locs cells slots) (hx : p.tables.exec = Jvm.exec) (hlk : meth.locks = false) {ty : FieldType} (hret : meth.sig.returnType = some ty) (hty : ty.isReference = true) {pc : Nat} {Ls : Array Slot} {a : Addr} {rest : List Value} (hd : decode c.code pc = .ok (.areturn, 1)) (hC : cells ≤ C) (hS : slots ≤ S) (hQ : Q (some (.ref a)) T.heap locs) : ownFin p e below (ownFE s C S) Q (T.setTop (mkF m pc Ls (.ref a :: rest))) :=
  ownRet X hlk (v := some (.ref a)) (fun q => by rw [hret] at q; cases q) (fun fs hr => retOut X hx hret (by cases ty <;> first | rfl | cases hty) (Or.inr (Or.inr (Or.inr (Or.inr ⟨rfl, hty, rfl⟩)))) hd hr) hC hS hQ
theorem ownRetV (X : Stand p l e R s m args below meth c T locs cells slots) (hx : p.tables.exec = Jvm.exec) (hlk : meth.locks = false) (hret : meth.sig.returnType = none) {pc : Nat} {Ls : Array Slot} (hd : decode c.code pc = .ok (.return_, 1)) (hC : cells ≤ C) (hS : slots ≤ S) (hQ : Q none T.heap locs) : ownFin p e below (ownFE s C S) Q (T.setTop (mkF m pc Ls [])) :=
  ownRet X hlk (v := none) (fun _ => rfl) (fun fs hr => X.returnOut hx hret hd hr) hC hS hQ
/-- the contract of a method at given arguments and a given heap -/
abbrev ownMet (l : Launch) (Z : State) (y : MethodName) (bytes : ByteArray) (maxL : Nat) (ret : Option FieldType) (ws : List Jvm.Cond) (rm : Room) (as' : Array Value) (h0 : Heap) (Q : Option Value → Heap → List Loc → Prop) : Prop :=
  MetFree l y (head1 (Jvm.Cond.code y bytes maxL ret :: ws) rm) (fun a U => a = as' ∧ Z.Warmed39 U.vm ∧ U.heap = h0) (fun _ _ _ _ _ => True) (fun _ U o U' => ∃ v L, o = .returned v ∧ Q v U'.heap L ∧ FrameEnd U o U' L rm.cells rm.slots)
theorem ownBody {y : MethodName} {bytes : ByteArray} {maxL : Nat} {ret : Option FieldType} {ws : List Jvm.Cond} {rm : Room} {as' : Array Value} {h0 : Heap} (hpl : plainFor y = true)
    (H : ∀ (p : Program) (e : Env) (s : State) (m : MethodId) (below : List Frame) (meth : Method) (c : Code) (T : State), p.tables.exec = Jvm.exec → c.code = bytes → c.maxLocals = maxL → meth.sig.returnType = ret → meth.locks = false → Z.Warmed39 s.vm → s.vm.findClass y.cls = some m.cls → meth.name = y.name →
      Stand p l e rm s m as' below meth c T [] 0 0 → T.heap = h0 → ownFin p e below (ownFE s rm.cells rm.slots) Q (T.setTop (entryFrame m as' maxL))) : ownMet l Z y bytes maxL ret ws rm as' h0 Q := by
  refine MetFree.of_bodySF hpl hisR ?_
  intro p e s m args below meth c s₁ Bd hml0 hP hK
  obtain ⟨rfl, hZ, hh⟩ := hP
  exact H p e s m below meth c s₁ Bd.exec Bd.bytes hml0 Bd.returns Bd.notSynchronized hZ (findClass_of_methodNamed Bd.named) (name_of_methodNamed Bd.named Bd.method).1 (Stand.of_body Bd) (by rw [← hh, Bd.state]; rfl)
theorem ownCallS {own : String} {index : Nat} {y : MethodName} {bytes : ByteArray} {maxL : Nat} {ret : Option FieldType} {rm : Room} {as' : Array Value} {Q' : Option Value → Heap → List Loc → Prop}
    (X : Stand p l e R s m args below meth c T locs cells slots) (hx : p.tables.exec = Jvm.exec) (hZ : Z.Warmed39 s.vm) (hown : s.vm.findClass own = some m.cls)
    (w1 : (Jvm.Cond.methodLink own index y).before a0 Z = true) (w2 : (Jvm.Cond.static y).before a0 Z = true) (w3 : (Jvm.Cond.initialized y.cls).before a0 Z = true) (w4 : (Jvm.Cond.code y bytes maxL ret).before a0 Z = true)
    (hy : y.cls ≠ "java/lang/invoke/MethodHandle" ∧ y.cls ≠ "java/lang/invoke/VarHandle") (eT : T.heap = h) (hM : ownMet l Z y bytes maxL ret [] rm as' h Q')
    {pc : Nat} {Ls : Array Slot} {st : List Value} (hsz : Ls.size = c.maxLocals) (argsL rest : List Value) (hlen : ∀ sig, parseMethodDescriptor y.desc = some sig → argsL.length = sig.parameters.length)
    (hst : st = argsL.reverse ++ rest) (has : argsL.toArray = as') (W : Nat) (hW : (rest.map fun v => v.category).sum = W) (hd : decode c.code pc = .ok (.invokestatic index, 3))
    (hfr : rm.frames + 1 ≤ R.frames) (hlo : W + (maxL + 11) + rm.locals ≤ R.locals) (hce : cells + rm.cells ≤ R.cells) (hsl : slots + rm.slots ≤ R.slots)
    (K : ∀ v T' L', Stand p l e R s m args below meth c T' (locs ++ L') (cells + rm.cells) (slots + rm.slots) → Q' v T'.heap L' → ownFin p e below F Q (T'.setTop (mkF m (pc + 3) Ls (v.toList ++ rest)))) :
    ownFin p e below F Q (T.setTop (mkF m pc Ls st)) := by
  obtain ⟨v, _, ⟨T2, L2, k2, n2⟩, -, X2, ⟨Lc2, hQ2, l2, y2, z2⟩, st2⟩ := Jvm.LawKit.callS X hx (y := y) hown (mvT hZ w1) (mvT hZ w2) (mvT hZ w3) (mvT hZ w4) hy (backOf (W := W) hM hZ w4 w3 hfr hlo) (g := mkF m pc Ls st) rfl hsz (argsL := argsL) (rest := rest) hlen hst (by show 2 * 0 + _ ≤ _; omega) hd (fun _ _ => ⟨has, eT, hce, hsl⟩)
  dsimp only [Pt.U, Pt.locs, Pt.cells, Pt.slots] at X2 l2 y2 z2 st2 hQ2
  subst l2 y2 z2
  exact ownVia st2 (K v T2 Lc2 X2 hQ2)
theorem ownCallN {own : String} {index : Nat} {y : MethodName} {bytes : ByteArray} {maxL : Nat} {rm : Room} {as' : Array Value} {Q' : Option Value → Heap → List Loc → Prop}
    (X : Stand p l e R s m args below meth c T locs cells slots) (hx : p.tables.exec = Jvm.exec) (hZ : Z.Warmed39 s.vm) (hown : s.vm.findClass own = some m.cls) (hy1 : y.name = "<init>")
    (w1 : (Jvm.Cond.methodLink own index y).before a0 Z = true) (w2 : (Jvm.Cond.instanceMethod y).before a0 Z = true) (w3 : (Jvm.Cond.initialized y.cls).before a0 Z = true) (w4 : (Jvm.Cond.code y bytes maxL none).before a0 Z = true)
    (hy : y.cls ≠ "java/lang/invoke/MethodHandle" ∧ y.cls ≠ "java/lang/invoke/VarHandle") (eT : T.heap = h) (hM : ownMet l Z y bytes maxL none [] rm as' h Q')
    {pc : Nat} {Ls : Array Slot} {st : List Value} (hsz : Ls.size = c.maxLocals) (a : Addr) (argsL rest : List Value) (hlen : ∀ sig, parseMethodDescriptor y.desc = some sig → argsL.length = sig.parameters.length)
    (hst : st = argsL.reverse ++ .ref a :: rest) (has : (Value.ref a :: argsL).toArray = as') (W : Nat) (hW : (rest.map fun v => v.category).sum = W) (hd : decode c.code pc = .ok (.invokespecial index, 3))
    (hfr : rm.frames + 1 ≤ R.frames) (hlo : W + (maxL + 11) + rm.locals ≤ R.locals) (hce : cells + rm.cells ≤ R.cells) (hsl : slots + rm.slots ≤ R.slots)
    (K : ∀ v T' L', Stand p l e R s m args below meth c T' (locs ++ L') (cells + rm.cells) (slots + rm.slots) → Q' v T'.heap L' → ownFin p e below F Q (T'.setTop (mkF m (pc + 3) Ls (v.toList ++ rest)))) :
    ownFin p e below F Q (T.setTop (mkF m pc Ls st)) := by
  obtain ⟨v, _, ⟨T2, L2, k2, n2⟩, -, X2, ⟨Lc2, hQ2, l2, y2, z2⟩, st2⟩ := X.specialBack hx (y := y) hy1 hown (mvT hZ w1) (mvT hZ w2) (mvT hZ w4) hy (backOf (W := W) hM hZ w4 w3 hfr hlo) (g := mkF m pc Ls st) rfl hsz (Steps.refl _) (a := a) (argsL := argsL) (rest := rest) hlen hst (by show 2 * 0 + _ ≤ _; omega) hd (fun _ _ => ⟨has, eT, hce, hsl⟩)
  dsimp only [Pt.U, Pt.locs, Pt.cells, Pt.slots] at X2 l2 y2 z2 st2 hQ2
  subst l2 y2 z2
  exact ownVia (fun _ k => st2.trans k) (K v T2 Lc2 X2 hQ2)
theorem ownCallV {own C' : String} {index : Nat} {y z : MethodName} {bytes : ByteArray} {maxL : Nat} {ret : Option FieldType} {rm : Room} {as' : Array Value} {Q' : Option Value → Heap → List Loc → Prop}
    (X : Stand p l e R s m args below meth c T locs cells slots) (hx : p.tables.exec = Jvm.exec) (hZ : Z.Warmed39 s.vm) (hown : s.vm.findClass own = some m.cls)
    (w1 : (Jvm.Cond.methodLink own index y).before a0 Z = true) (w2 : (Jvm.Cond.declares y).before a0 Z = true) (w5 : (Jvm.Cond.selects y.cls y y).before a0 Z = true) (w6 : (Jvm.Cond.selects C' y z).before a0 Z = true) (w7 : (Jvm.Cond.instanceMethod z).before a0 Z = true) (w3 : (Jvm.Cond.initialized z.cls).before a0 Z = true) (w4 : (Jvm.Cond.code z bytes maxL ret).before a0 Z = true)
    (hy : y.cls ≠ "java/lang/invoke/MethodHandle" ∧ y.cls ≠ "java/lang/invoke/VarHandle") (eT : T.heap = h) {a : Addr} (E : Exa Z h a C') (hM : ownMet l Z z bytes maxL ret [] rm as' h Q')
    {pc : Nat} {Ls : Array Slot} {st : List Value} (hsz : Ls.size = c.maxLocals) (argsL rest : List Value) (hlen : ∀ sig, parseMethodDescriptor y.desc = some sig → argsL.length = sig.parameters.length)
    (hst : st = argsL.reverse ++ .ref a :: rest) (has : (Value.ref a :: argsL).toArray = as') (W : Nat) (hW : (rest.map fun v => v.category).sum = W) (hd : decode c.code pc = .ok (.invokevirtual index, 3))
    (hfr : rm.frames + 1 ≤ R.frames) (hlo : W + (maxL + 11) + rm.locals ≤ R.locals) (hce : cells + rm.cells ≤ R.cells) (hsl : slots + rm.slots ≤ R.slots)
    (K : ∀ v T' L', Stand p l e R s m args below meth c T' (locs ++ L') (cells + rm.cells) (slots + rm.slots) → Q' v T'.heap L' → ownFin p e below F Q (T'.setTop (mkF m (pc + 3) Ls (v.toList ++ rest)))) :
    ownFin p e below F Q (T.setTop (mkF m pc Ls st)) := by
  obtain ⟨cq, kq, qa, qb, qc⟩ := isOf hZ eT E
  obtain ⟨v, _, ⟨T2, L2, k2, n2⟩, -, X2, ⟨Lc2, hQ2, l2, y2, z2⟩, st2⟩ := X.virtualBack hx (y := y) (z := z) hown (mvT hZ w1) (mvT hZ w2) (notFace_of_selects (args := #[]) (mvT hZ w5)) (mvT hZ w6) (mvT hZ w7) hy (backOf (W := W) hM hZ w4 w3 hfr hlo) qa qc (g := mkF m pc Ls st) rfl hsz (Steps.refl _) (argsL := argsL) (rest := rest) hlen hst (by show 2 * 0 + _ ≤ _; omega) hd (fun _ _ => ⟨has, eT, hce, hsl⟩)
  dsimp only [Pt.U, Pt.locs, Pt.cells, Pt.slots] at X2 l2 y2 z2 st2 hQ2
  subst l2 y2 z2
  exact ownVia (fun _ k => st2.trans k) (K v T2 Lc2 X2 hQ2)
theorem ownLen {a : Addr} {k : ClassId} {ty : FieldType} {z : Int32} {vs : List Value} {dv : Value} (X : Stand p l e R s m args below meth c T locs cells slots) (hx : p.tables.exec = Jvm.exec) (hZ : Z.Warmed39 s.vm) (eT : T.heap = h) (A : Arv Z h a k ty z vs dv) {pc : Nat} {Ls : Array Slot} {rest : List Value} (hd : decode c.code pc = .ok (.arraylength, 1))
    (K : ownFin p e below F Q (T.setTop (mkF m (pc + 1) Ls (.int z :: rest)))) : ownFin p e below F Q (T.setTop (mkF m pc Ls (.ref a :: rest))) := by
  obtain ⟨cl, Ar, -, Sz, Nz, -, -⟩ := A
  rw [← len_of Sz Nz] at K
  exact ownVia (fun t k => X.arraylength hx (by rw [eT]; exact Ar.1) (State.isArrayOf_alike hZ.alike Ar.2.1) (g := mkF m pc Ls (.ref a :: rest)) rfl rfl hd t k) K
theorem ownBaload {a : Addr} {k : ClassId} {z j : Int32} {vs : List Value} {dv v : Value} (X : Stand p l e R s m args below meth c T locs cells slots) (hx : p.tables.exec = Jvm.exec) (hZ : Z.Warmed39 s.vm) (eT : T.heap = h) (A : Arv Z h a k .byte z vs dv) (hj : ¬ j < 0 ∧ j < z) (hv : vs.getD j.toNatClampNeg dv = v) {pc : Nat} {Ls : Array Slot} {rest : List Value} (hd : decode c.code pc = .ok (.baload, 1))
    (K : ownFin p e below F Q (T.setTop (mkF m (pc + 1) Ls (v :: rest)))) : ownFin p e below F Q (T.setTop (mkF m pc Ls (.int j :: .ref a :: rest))) := by
  obtain ⟨cl, Ar, -, Sz, Nz, H, -⟩ := A
  have hin := inb_of Sz hj
  exact ownVia (fun t k => X.baloadBytes hx (by rw [eT]; exact Ar.1) (State.isArrayOf_alike hZ.alike Ar.2.1) Ar.2.2 hin (H.at hin hv) (g := mkF m pc Ls (.int j :: .ref a :: rest)) rfl rfl hd t k) K
theorem ownIaload {a : Addr} {k : ClassId} {z j : Int32} {vs : List Value} {dv v : Value} (X : Stand p l e R s m args below meth c T locs cells slots) (hx : p.tables.exec = Jvm.exec) (hZ : Z.Warmed39 s.vm) (eT : T.heap = h) (A : Arv Z h a k .int z vs dv) (hj : ¬ j < 0 ∧ j < z) (hv : vs.getD j.toNatClampNeg dv = v) {pc : Nat} {Ls : Array Slot} {rest : List Value} (hd : decode c.code pc = .ok (.iaload, 1))
    (K : ownFin p e below F Q (T.setTop (mkF m (pc + 1) Ls (v :: rest)))) : ownFin p e below F Q (T.setTop (mkF m pc Ls (.int j :: .ref a :: rest))) := by
  obtain ⟨cl, Ar, -, Sz, Nz, H, -⟩ := A
  have hin := inb_of Sz hj
  exact ownVia (fun t k => X.iaload hx (by rw [eT]; exact Ar.1) (State.isArrayOf_alike hZ.alike Ar.2.1) Ar.2.2 hin (H.at hin hv) (g := mkF m pc Ls (.int j :: .ref a :: rest)) rfl rfl hd t k) K
theorem ownLaload {a : Addr} {k : ClassId} {z j : Int32} {vs : List Value} {dv v : Value} (X : Stand p l e R s m args below meth c T locs cells slots) (hx : p.tables.exec = Jvm.exec) (hZ : Z.Warmed39 s.vm) (eT : T.heap = h) (A : Arv Z h a k .long z vs dv) (hj : ¬ j < 0 ∧ j < z) (hv : vs.getD j.toNatClampNeg dv = v) {pc : Nat} {Ls : Array Slot} {rest : List Value} (hd : decode c.code pc = .ok (.laload, 1))
    (K : ownFin p e below F Q (T.setTop (mkF m (pc + 1) Ls (v :: rest)))) : ownFin p e below F Q (T.setTop (mkF m pc Ls (.int j :: .ref a :: rest))) := by
  obtain ⟨cl, Ar, -, Sz, Nz, H, -⟩ := A
  have hin := inb_of Sz hj
  exact ownVia (fun t k => X.laload hx (by rw [eT]; exact Ar.1) (State.isArrayOf_alike hZ.alike Ar.2.1) Ar.2.2 hin (H.at hin hv) (g := mkF m pc Ls (.int j :: .ref a :: rest)) rfl rfl hd t k) K
theorem ownBastore {a : Addr} {k : ClassId} {z j x : Int32} {vs : List Value} {dv : Value} {n0 : Nat} (X : Stand p l e R s m args below meth c T locs cells slots) (hx : p.tables.exec = Jvm.exec) (hZ : Z.Warmed39 s.vm) (eT : T.heap = h) (A : Arv Z h a k .byte z vs dv) (hj : ¬ j < 0 ∧ j < z) (i : Nat) (hi : j.toNatClampNeg = i) (hl : i < vs.length) (N : Fr n0 locs) (ge : n0 ≤ a) {pc : Nat} {Ls : Array Slot} {rest : List Value} (hd : decode c.code pc = .ok (.bastore, 1))
    (K : ∀ T' h' L', Stand p l e R s m args below meth c T' L' cells slots → T'.heap = h' → Fr n0 L' → Wr h h' a i (.int (nar .byte x)) → Arv Z h' a k .byte z (vs.set i (.int (nar .byte x))) dv → ownFin p e below F Q (T'.setTop (mkF m (pc + 1) Ls rest))) :
    ownFin p e below F Q (T.setTop (mkF m pc Ls (.int x :: .int j :: .ref a :: rest))) := by
  obtain ⟨cl, Ar, q1, Sz, Nz, H, G⟩ := A
  obtain ⟨T', h', X', e', W, st⟩ := stB X hx hZ eT Ar (j := j) (x := x) (inb_of Sz hj) (g := mkF m pc Ls (.int x :: .int j :: .ref a :: rest)) rfl rfl hd
  have N' := Fr.snoc X' N ge
  have A' := Arv.set Ar q1 Sz Nz H G (fits_nar_byte x) W i hi hl
  rw [hi] at W
  exact ownVia st (K T' h' _ X' e' N' W A')
theorem ownIastore {a : Addr} {k : ClassId} {z j x : Int32} {vs : List Value} {dv : Value} {n0 : Nat} (X : Stand p l e R s m args below meth c T locs cells slots) (hx : p.tables.exec = Jvm.exec) (hZ : Z.Warmed39 s.vm) (eT : T.heap = h) (A : Arv Z h a k .int z vs dv) (hj : ¬ j < 0 ∧ j < z) (i : Nat) (hi : j.toNatClampNeg = i) (hl : i < vs.length) (N : Fr n0 locs) (ge : n0 ≤ a) {pc : Nat} {Ls : Array Slot} {rest : List Value} (hd : decode c.code pc = .ok (.iastore, 1))
    (K : ∀ T' h' L', Stand p l e R s m args below meth c T' L' cells slots → T'.heap = h' → Fr n0 L' → Wr h h' a i (.int x) → Arv Z h' a k .int z (vs.set i (.int x)) dv → ownFin p e below F Q (T'.setTop (mkF m (pc + 1) Ls rest))) :
    ownFin p e below F Q (T.setTop (mkF m pc Ls (.int x :: .int j :: .ref a :: rest))) := by
  obtain ⟨cl, Ar, q1, Sz, Nz, H, G⟩ := A
  obtain ⟨T', h', X', e', W, st⟩ := stI X hx hZ eT Ar (j := j) (x := x) (inb_of Sz hj) (g := mkF m pc Ls (.int x :: .int j :: .ref a :: rest)) rfl rfl hd
  have N' := Fr.snoc X' N ge
  have A' := Arv.set Ar q1 Sz Nz H G rfl W i hi hl
  rw [hi] at W
  exact ownVia st (K T' h' _ X' e' N' W A')
theorem ownLastore {a : Addr} {k : ClassId} {z j : Int32} {x : Int64} {vs : List Value} {dv : Value} {n0 : Nat} (X : Stand p l e R s m args below meth c T locs cells slots) (hx : p.tables.exec = Jvm.exec) (hZ : Z.Warmed39 s.vm) (eT : T.heap = h) (A : Arv Z h a k .long z vs dv) (hj : ¬ j < 0 ∧ j < z) (i : Nat) (hi : j.toNatClampNeg = i) (hl : i < vs.length) (N : Fr n0 locs) (ge : n0 ≤ a) {pc : Nat} {Ls : Array Slot} {rest : List Value} (hd : decode c.code pc = .ok (.lastore, 1))
    (K : ∀ T' h' L', Stand p l e R s m args below meth c T' L' cells slots → T'.heap = h' → Fr n0 L' → Wr h h' a i (.long x) → Arv Z h' a k .long z (vs.set i (.long x)) dv → ownFin p e below F Q (T'.setTop (mkF m (pc + 1) Ls rest))) :
    ownFin p e below F Q (T.setTop (mkF m pc Ls (.long x :: .int j :: .ref a :: rest))) := by
  obtain ⟨cl, Ar, q1, Sz, Nz, H, G⟩ := A
  obtain ⟨T', h', X', e', W, st⟩ := stJ X hx hZ eT Ar (j := j) (x := x) (inb_of Sz hj) (g := mkF m pc Ls (.long x :: .int j :: .ref a :: rest)) rfl rfl hd
  have N' := Fr.snoc X' N ge
  have A' := Arv.set Ar q1 Sz Nz H G rfl W i hi hl
  rw [hi] at W
  exact ownVia st (K T' h' _ X' e' N' W A')
theorem ownNewP {aty : ArrayType} {n : Int32} (X : Stand p l e R s m args below meth c T locs cells slots) (hx : p.tables.exec = Jvm.exec) (hZ : Z.Warmed39 s.vm) (w : (Jvm.Cond.arrayClass (newarray.typeOf aty)).before a0 Z = true) (eT : T.heap = h) (ad : String) (had : "[" ++ (newarray.typeOf aty).toString = ad) (hn : ¬ n < 0) (N : Nat) (hN : n.toNatClampNeg = N) (cap : Nat) (hcap : N ≤ cap) (hb : cap * 8 ≤ 536870912) (hc : cells + 1 ≤ R.cells) (hl : slots + cap ≤ R.slots)
    {pc : Nat} {Ls : Array Slot} {rest : List Value} (hd : decode c.code pc = .ok (.newarray aty, 2))
    (K : ∀ T' h' k a, a = h.size → Stand p l e R s m args below meth c T' locs (cells + 1) (slots + cap) → T'.heap = h' → Ext h h' → Arv Z h' a k (newarray.typeOf aty) n (List.replicate N (defaultValue (newarray.typeOf aty))) (defaultValue (newarray.typeOf aty)) → Exa Z h' a ad → ownFin p e below F Q (T'.setTop (mkF m (pc + 2) Ls (.ref a :: rest)))) :
    ownFin p e below F Q (T.setTop (mkF m pc Ls (.int n :: rest))) := by
  obtain ⟨T', h', k, X', e', E, A, Ex, st⟩ := newPE X hx hZ w eT (g := mkF m pc Ls (.int n :: rest)) rfl hd rfl hn (cap := cap) (by rw [hN]; exact hcap) hb hc hl had
  exact ownVia st (K T' h' k _ rfl X' e' E ((Arv.new A hn).pad (pad_rep [] _ _)) Ex)
theorem ownClone {own : String} {index : Nat} {a : Addr} {k : ClassId} {ty : FieldType} {z : Int32} {vs : List Value} {dv : Value} {ad : String} (X : Stand p l e R s m args below meth c T locs cells slots) (hx : p.tables.exec = Jvm.exec) (hZ : Z.Warmed39 s.vm) (hown : s.vm.findClass own = some m.cls)
    (w1 : (Jvm.Cond.methodLink own index ⟨ad, "clone", "()Ljava/lang/Object;"⟩).before a0 Z = true) (w2 : (Jvm.Cond.sameMethod ad "java/lang/Object" "clone" "()Ljava/lang/Object;").before a0 Z = true) (w3 : (Jvm.Cond.native ⟨"java/lang/Object", "clone", "()Ljava/lang/Object;"⟩).before a0 Z = true)
    (w4 : (Jvm.Cond.instanceMethod ⟨"java/lang/Object", "clone", "()Ljava/lang/Object;"⟩).before a0 Z = true) (w5 : (Jvm.Cond.selects ad ⟨ad, "clone", "()Ljava/lang/Object;"⟩ ⟨"java/lang/Object", "clone", "()Ljava/lang/Object;"⟩).before a0 Z = true) (w6 : (Jvm.Cond.castable ad "java/lang/Cloneable").before a0 Z = true)
    (eT : T.heap = h) (A : Arv Z h a k ty z vs dv) (E : Exa Z h a ad) {pc : Nat} {Ls : Array Slot} {rest : List Value} (hsz : Ls.size = c.maxLocals) (hd : decode c.code pc = .ok (.invokevirtual index, 3)) (hf : 1 ≤ R.frames) (W : Nat) (hW : (rest.map fun v => v.category).sum = W) (hlo : W + 14 ≤ R.locals) (cap : Nat) (hcap : z.toNatClampNeg ≤ cap) (hc : cells + 1 ≤ R.cells) (hsl : slots + cap ≤ R.slots)
    (K : ∀ T' h' b, b = h.size → Stand p l e R s m args below meth c T' locs (cells + 1) (slots + cap) → T'.heap = h' → Ext h h' → Arv Z h' b k ty z vs dv → Exa Z h' b ad → ownFin p e below F Q (T'.setTop (mkF m (pc + 3) Ls (.ref b :: rest)))) :
    ownFin p e below F Q (T.setTop (mkF m pc Ls (.ref a :: rest))) := by
  obtain ⟨T', h', X', e', Ex, A', E', st⟩ := cloneH X hx hZ hown w1 w2 w3 w4 w5 w6 eT A.arh E (g := mkF m pc Ls (.ref a :: rest)) rfl hsz rfl hd hf (W := W) (by show 2 * 0 + _ ≤ _; omega) hlo hcap hc hsl
  exact ownVia st (K T' h' _ rfl X' e' Ex A' E')
theorem ownCallP {own : String} {index : Nat} {y y2 : MethodName} {bytes : ByteArray} {maxL : Nat} {ret : Option FieldType} {rm : Room} {as' : Array Value} {Q' : Option Value → Heap → List Loc → Prop} {C' : String}
    (X : Stand p l e R s m args below meth c T locs cells slots) (hx : p.tables.exec = Jvm.exec) (hZ : Z.Warmed39 s.vm) (hown : s.vm.findClass own = some m.cls)
    (w1 : (Jvm.Cond.methodLink own index y).before a0 Z = true) (w2 : (Jvm.Cond.privateMethod y).before a0 Z = true) (w5 : (Jvm.Cond.selects y2.cls y2 y2).before a0 Z = true) (hc2 : y2.cls = y.cls) (w7 : (Jvm.Cond.instanceMethod y).before a0 Z = true) (w3 : (Jvm.Cond.initialized y.cls).before a0 Z = true) (w4 : (Jvm.Cond.code y bytes maxL ret).before a0 Z = true)
    (hy : y.cls ≠ "java/lang/invoke/MethodHandle" ∧ y.cls ≠ "java/lang/invoke/VarHandle") (eT : T.heap = h) {a : Addr} (E : Exa Z h a C') (hM : ownMet l Z y bytes maxL ret [] rm as' h Q')
    {pc : Nat} {Ls : Array Slot} {st : List Value} (hsz : Ls.size = c.maxLocals) (argsL rest : List Value) (hlen : ∀ sig, parseMethodDescriptor y.desc = some sig → argsL.length = sig.parameters.length)
    (hst : st = argsL.reverse ++ .ref a :: rest) (has : (Value.ref a :: argsL).toArray = as') (W : Nat) (hW : (rest.map fun v => v.category).sum = W) (hd : decode c.code pc = .ok (.invokevirtual index, 3))
    (hfr : rm.frames + 1 ≤ R.frames) (hlo : W + (maxL + 11) + rm.locals ≤ R.locals) (hce : cells + rm.cells ≤ R.cells) (hsl : slots + rm.slots ≤ R.slots)
    (K : ∀ v T' L', Stand p l e R s m args below meth c T' (locs ++ L') (cells + rm.cells) (slots + rm.slots) → Q' v T'.heap L' → ownFin p e below F Q (T'.setTop (mkF m (pc + 3) Ls (v.toList ++ rest)))) :
    ownFin p e below F Q (T.setTop (mkF m pc Ls st)) := by
  have hpriv : s.PrivateAt y := Cond.privateMethod_at (mvP hZ w2 (args := #[]))
  have hsel2 : (Jvm.Cond.selects y2.cls y2 y2).before args s = true := mvT hZ w5
  obtain ⟨c2, r2, m2, q1, q2, q3, q4, kP, hkP, hkPi⟩ := Cond.selects_spec hsel2
  have hf2 := findClass_of_methodNamed q3
  rw [hc2] at hf2
  have hsel : (Jvm.Cond.selects y.cls y y).before args s = true := selects_self_of_private hf2 hkP hkPi hpriv (mvT hZ w7) hy
  obtain ⟨cq, qc1, qc2⟩ := E.cell
  obtain ⟨v, _, ⟨T2, L2, k2, n2⟩, -, X2, ⟨Lc2, hQ2, l2, y2', z2⟩, st2⟩ := X.privateBack hx (y := y) hown (mvT hZ w1) (mvT hZ w7) hsel hpriv (mvT hZ w4) hy (backOf (W := W) hM hZ w4 w3 hfr hlo) (g := mkF m pc Ls st) rfl hsz (Steps.refl _) (a := a) (by rw [eT]; exact qc1) qc2 (argsL := argsL) (rest := rest) hlen hst (by show 2 * 0 + _ ≤ _; omega) hd (fun _ _ => ⟨has, eT, hce, hsl⟩)
  dsimp only [Pt.U, Pt.locs, Pt.cells, Pt.slots] at X2 l2 y2' z2 st2 hQ2
  subst l2 y2' z2
  exact ownVia (fun _ k => st2.trans k) (K v T2 Lc2 X2 hQ2)
theorem ownCast {own K' : String} {index : Nat} {a : Addr} (X : Stand p l e R s m args below meth c T locs cells slots) (hx : p.tables.exec = Jvm.exec) (hZ : Z.Warmed39 s.vm) (hown : s.vm.findClass own = some m.cls) (w : (Jvm.Cond.classLink own index K').before a0 Z = true) (eT : T.heap = h) (FI : Ins Z h a K' true) {pc : Nat} {Ls : Array Slot} {rest : List Value} (hd : decode c.code pc = .ok (.checkcast index, 3))
    (K : ∀ T', Stand p l e R s m args below meth c T' locs cells slots → T'.heap = h → ownFin p e below F Q (T'.setTop (mkF m (pc + 3) Ls (.ref a :: rest)))) : ownFin p e below F Q (T.setTop (mkF m pc Ls (.ref a :: rest))) := by
  obtain ⟨T', X', e', st⟩ := castY X hx hZ hown w eT FI (g := mkF m pc Ls (.ref a :: rest)) rfl rfl hd
  exact ownVia st (K T' X' e')
theorem own_clamp {j : Int32} {n : Nat} (h : j.toInt = (n : Int)) : j.toNatClampNeg = n := by
  show j.toInt.toNat = n
  rw [h]; rfl
theorem own_nneg {j : Int32} {n : Nat} (h : j.toInt = (n : Int)) : ¬ j < 0 := fun q => by
  have := Int32.lt_iff_toInt_lt.mp q
  have k0 : (0 : Int32).toInt = 0 := by decide
  omega
theorem ownCopy {own : String} {index : Nat} {a b : Addr} {k k' : ClassId} {ty : FieldType} {z z' sp dp nn : Int32} {vs vd : List Value} {dv dd : Value} {n0 : Nat} (X : Stand p l e R s m args below meth c T locs cells slots) (hx : p.tables.exec = Jvm.exec) (hZ : Z.Warmed39 s.vm) (hown : s.vm.findClass own = some m.cls)
    (w1 : (Jvm.Cond.methodLink own index Jvm.Stand.acN).before a0 Z = true) (w2 : (Jvm.Cond.native Jvm.Stand.acN).before a0 Z = true) (w3 : (Jvm.Cond.static Jvm.Stand.acN).before a0 Z = true) (w4 : (Jvm.Cond.initialized "java/lang/System").before a0 Z = true) (eT : T.heap = h)
    (A : Arv Z h a k ty z vs dv) (B : Arv Z h b k' ty z' vd dd) (hty : refKind ty = false) (i j n lz lz' : Nat) (hi : sp.toInt = (i : Int)) (hj : dp.toInt = (j : Int)) (hn : nn.toInt = (n : Int)) (hz : z.toInt = (lz : Int)) (hz' : z'.toInt = (lz' : Int)) (h4 : i + n ≤ lz) (h5 : j + n ≤ lz') (hl : j + n ≤ vd.length) (N : Fr n0 locs) (ge : n0 ≤ b)
    {pc : Nat} {Ls : Array Slot} {rest : List Value} (hsz : Ls.size = c.maxLocals) (hd : decode c.code pc = .ok (.invokestatic index, 3)) (hf : 1 ≤ R.frames) (W : Nat) (hW : (rest.map fun v => v.category).sum = W) (hlo : W + (nativeFrameWords "java/lang/System" "arraycopy" 5 + 11) ≤ R.locals)
    (K : ∀ T' h' L', Stand p l e R s m args below meth c T' L' cells slots → T'.heap = h' → Fr n0 L' → Keep h h' [b] → Arv Z h' b k' ty z' (vd.take j ++ ((List.range n).map fun x => vs.getD (i + x) dv) ++ vd.drop (j + n)) dd → ownFin p e below F Q (T'.setTop (mkF m (pc + 3) Ls rest))) :
    ownFin p e below F Q (T.setTop (mkF m pc Ls (.int nn :: .int dp :: .ref b :: .int sp :: .ref a :: rest))) := by
  have e1 := own_clamp hi
  have e2 := own_clamp hj
  have e3 := own_clamp hn
  have e4 := own_clamp hz
  have e5 := own_clamp hz'
  obtain ⟨T', h', L', X', e', N', K', B', st⟩ := cpA X hx hZ hown w1 w2 w3 w4 eT A B (Or.inl ⟨rfl, hty⟩) (own_nneg hi) (own_nneg hj) (own_nneg hn) (by omega) (by omega) rfl (by omega) N ge (g := mkF m pc Ls (.int nn :: .int dp :: .ref b :: .int sp :: .ref a :: rest)) rfl hsz rfl hd hf (W := W) (by show 2 * 0 + _ ≤ _; omega) hlo
  rw [e1, e2, e3] at B'
  exact ownVia st (K T' h' L' X' e' N' K' B')
theorem own_lti {a b : Int32} {x y : Int} (ha : a.toInt = x) (hb : b.toInt = y) : a < b ↔ x < y := by rw [Int32.lt_iff_toInt_lt, ha, hb]
theorem own_sub {a b : Int32} {i j : Nat} (ha : a.toInt = (i : Int)) (hb : b.toInt = (j : Int)) (h : j ≤ i) : (a - b).toInt = ((i - j : Nat) : Int) := by
  have h1 := c_isub a b
  have h2 := rng32 (a - b)
  have h3 := rng32 a
  have h4 := rng32 b
  omega
theorem own_add {a b : Int32} {i j : Nat} (ha : a.toInt = (i : Int)) (hb : b.toInt = (j : Int)) (h : i + j < 2147483648) : (a + b).toInt = ((i + j : Nat) : Int) := by
  have h1 := c_iadd a b
  have h2 := rng32 (a + b)
  omega
theorem own_nlt {a b : Int32} {i j : Int} (ha : a.toInt = i) (hb : b.toInt = j) (h : j ≤ i) : ¬ a < b := fun q => by
  have := (own_lti ha hb).mp q
  omega
theorem own_enum {args : Array Value} {C n d K : String} (hx : (Jvm.Cond.exactly (.static C n d) K).value args s none s [] = some true) (wi : (Jvm.Cond.initialized C).before args s = true) (wl : (Jvm.Cond.laysStatic C n d).before args s = true) :
    ∃ a, (Term.static C n d).eval args s none [] s = some (.ref a) ∧ Sta s s.heap C n d (.ref a) ∧ Exa s s.heap a K := by
  obtain ⟨a, ev⟩ := exa_v hx
  exact ⟨a, ev, Sta.start ev (Or.inr ⟨wi, wl⟩), Exa.start ev hx⟩
theorem own_eqv {args : Array Value} {t : Term} {k : Int32} (hf : (Jvm.Cond.eq t (.int k)).value args s none s [] = some true) : t.eval args s none [] s = some (.int k) := by
  cases hv : t.eval args s none [] s with
  | none => simp [Cond.value, hv] at hf
  | some v =>
    cases v <;> simp [Cond.value, hv, Term.eval] at hf
    rw [hf]
theorem own_efld {args : Array Value} {t : Term} {a : Addr} {C n d : String} {k : Int32} (ev : t.eval args s none [] s = some (.ref a)) (hf : (Jvm.Cond.eq (.field t C n d) (.int k)).value args s none s [] = some true) : Fld s s.heap a C n d (.int k) :=
  Fld.start ((fld_at ev).symm.trans (own_eqv hf))
theorem own_iff_f {A B P : Prop} (hA : ¬ A) (h : P ↔ A ∨ B) : P ↔ B := by simpa [hA] using h
theorem own_iff_t {A B P : Prop} (hA : A) (h : P ↔ A ∨ B) : P := h.mpr (Or.inl hA)
theorem own_ref_ne {a b : Addr} (h : a ≠ b) : ¬ (Value.ref a) = .ref b := fun q => h (by cases q; rfl)
theorem own_sz {n0 : Nat} {h' : Heap} (q : n0 ≤ h.size) (E : Ext h h') : n0 ≤ h'.size := Nat.le_trans q E.1
theorem own_szW {n0 : Nat} {h' : Heap} {a : Addr} {sl : Nat} {v : Value} (q : n0 ≤ h.size) (W : Wr h h' a sl v) : n0 ≤ h'.size := by rw [W.size]; exact q
theorem own_eqi {a b : Int32} {x y : Int} (ha : a.toInt = x) (hb : b.toInt = y) : a = b ↔ x = y := by rw [← Int32.toInt_inj, ha, hb]
theorem own_ltl {a b : Int64} {x y : Int} (ha : a.toInt = x) (hb : b.toInt = y) : a < b ↔ x < y := by rw [Int64.lt_iff_toInt_lt, ha, hb]
theorem own_eql {a b : Int64} {x y : Int} (ha : a.toInt = x) (hb : b.toInt = y) : a = b ↔ x = y := by rw [← Int64.toInt_inj, ha, hb]
theorem own_getD_map {α β : Type} (f : α → β) (d : α) (xs : List α) (n : Nat) : (xs.map f).getD n (f d) = f (xs.getD n d) := by
  simp only [List.getD_eq_getElem?_getD, List.getElem?_map]
  cases xs[n]? <;> rfl
theorem own_idx {j z : Int32} {zi : Int} (hz : z.toInt = zi) (h1 : 0 ≤ j.toInt) (h2 : j.toInt < zi) : ¬ j < 0 ∧ j < z := ⟨fun q => by have := (own_lti rfl (by decide : (0 : Int32).toInt = 0)).mp q; omega, Int32.lt_iff_toInt_lt.mpr (by rw [hz]; exact h2)⟩
end Own
theorem own_nn (q : Int64) : ¬ (q &&& (9223372036854775807 : Int64)) < (0 : Int64) := by
  have h := c_maskL q 9223372036854775807 63 (by decide) (by decide)
  rw [Int64.lt_iff_toInt_lt, h]
  have : (0 : Int64).toInt = 0 := by decide
  omega
theorem d1_0 : decode prog_22_method_3_code 0 = .ok (.lload_n 0, 1) := by decide +kernel
theorem d1_1 : decode prog_22_method_3_code 1 = .ok (.lconst 0, 1) := by decide +kernel
theorem d1_2 : decode prog_22_method_3_code 2 = .ok (.lcmp, 1) := by decide +kernel
theorem d1_3 : decode prog_22_method_3_code 3 = .ok (.ifCond .ge 17, 3) := by decide +kernel
theorem d1_6 : decode prog_22_method_3_code 6 = .ok (.new 17, 3) := by decide +kernel
theorem d1_9 : decode prog_22_method_3_code 9 = .ok (.dup, 1) := by decide +kernel
theorem d1_10 : decode prog_22_method_3_code 10 = .ok (.lload_n 0, 1) := by decide +kernel
theorem d1_11 : decode prog_22_method_3_code 11 = .ok (.invokedynamic 41, 5) := by decide +kernel
theorem d1_16 : decode prog_22_method_3_code 16 = .ok (.invokespecial 28, 3) := by decide +kernel
theorem d1_19 : decode prog_22_method_3_code 19 = .ok (.athrow, 1) := by decide +kernel
theorem d1_20 : decode prog_22_method_3_code 20 = .ok (.lload_n 0, 1) := by decide +kernel
theorem d1_21 : decode prog_22_method_3_code 21 = .ok (.lreturn, 1) := by decide +kernel
theorem own_pn0 : plainName "com/example/oubliette/oubliette/engine/Seed" = true := by first | (simp [plainName, overriddenIn]; done) | decide +kernel
theorem own_ef1 (m : MethodId) (q1 : Int64) : entryFrame m #[(.long q1)] 2 = mkF m 0 #[.val (.long q1), .second] [] := by first | (simp [entryFrame, mkF, argsToLocals, Value.category]; done) | rfl
def Q_own_check (Z : State) (q1 : Int64) (h0 : Heap) (n0 : Nat)  : Option Value → Heap → List Loc → Prop := fun v h L => v = some (.long q1) ∧ Fr n0 L ∧ h = h0
set_option maxRecDepth 65536 in
set_option maxHeartbeats 40000000 in
theorem own_check (l : Launch) (Z : State) (a0 : Array Value) (hw : ∀ d ∈ tables_1, d.before a0 Z = true)  (q1 : Int64) (h0 : Heap) (n0 : Nat)  (Z0 : n0 ≤ h0.size) (hq : ¬ q1 < (0 : Int64)) :
    ownMet l Z (⟨"com/example/oubliette/oubliette/engine/Seed", "check", "(J)J"⟩ : MethodName) prog_22_method_3_code 2 (some .long) [] ({ frames := 0, cells := 0, slots := 0, locals := 0 } : Room) #[(.long q1)] h0 (Q_own_check Z q1 h0 n0 ) := by
  refine ownBody (plainFor_of_name own_pn0) ?_
  intro p e s m below meth c T0 hx hby hml hret hlk hZ hown hnm X0 e0
  have N0 : Fr n0 [] := Fr.nil n0
  refine ownVia (fun _ k => castTop (own_ef1 m q1) k) ?_
  show ownFin _ _ _ _ _ (T0.setTop (mkF m 0 #[.val (.long q1), .second] []))
  refine ownVia (fun _ k => XS.lloadN X0.here hx rfl (hb hby d1_0) rfl k) ?_
  show ownFin _ _ _ _ _ (T0.setTop (mkF m 1 #[.val (.long q1), .second] [(.long q1)]))
  refine ownVia (fun _ k => XS.lconst X0.here hx rfl (hb hby d1_1) k) ?_
  show ownFin _ _ _ _ _ (T0.setTop (mkF m 2 #[.val (.long q1), .second] [(.long (0 : Int64)), (.long q1)]))
  refine ownVia (fun _ k => XS.lcmp X0.here hx rfl (hb hby d1_2) rfl k) ?_
  show ownFin _ _ _ _ _ (T0.setTop (mkF m 3 #[.val (.long q1), .second] [(.int (lcmpW q1 (0 : Int64)))]))
  refine ownVia (fun _ k => XS.ifYes X0.here hx rfl (pc0 := 3) (pc' := 20) rfl (hb hby d1_3) rfl ((if0 _ _).trans (flt (fun q => hq ((lw_lt _ _).mp q))).2.1) (by decide) (by decide) k) ?_
  show ownFin _ _ _ _ _ (T0.setTop (mkF m 20 #[.val (.long q1), .second] []))
  refine ownVia (fun _ k => XS.lloadN X0.here hx rfl (hb hby d1_20) rfl k) ?_
  show ownFin _ _ _ _ _ (T0.setTop (mkF m 21 #[.val (.long q1), .second] [(.long q1)]))
  refine ownRetJ X0 hx hlk hret (hb hby d1_21) (by decide) (by decide) ?_
  show (Q_own_check Z q1 h0 n0 ) (some (.long q1)) T0.heap _
  rw [e0]
  exact ⟨rfl, N0, rfl⟩
theorem own_pn1 : plainName "com/example/oubliette/oubliette/engine/SeedCheckPinLaw" = true := by first | (simp [plainName, overriddenIn]; done) | decide +kernel
theorem own_ef2 (m : MethodId) (q1 : Int64) : entryFrame m #[(.long q1)] maxLocals = mkF m 0 #[.val (.long q1), .second, .unset, .unset] [] := by first | (simp [entryFrame, mkF, argsToLocals, Value.category, maxLocals]; done) | rfl
def Q_own_law (Z : State) (q1 : Int64) (h0 : Heap) (n0 : Nat)  : Option Value → Heap → List Loc → Prop := fun v h L => v = some (.int 1) ∧ Fr n0 L
theorem own_pd0 : parseMethodDescriptor "(J)J" = some ⟨[.long], some .long⟩ := by decide +kernel
set_option maxRecDepth 65536 in
set_option maxHeartbeats 40000000 in
theorem own_law (l : Launch) (Z : State) (a0 : Array Value) (hw : ∀ d ∈ tables_1, d.before a0 Z = true) (ws : List Jvm.Cond) (q1 : Int64) (h0 : Heap) (n0 : Nat)  (Z0 : n0 ≤ h0.size)  :
    ownMet l Z x code maxLocals ret ws room_1 #[(.long q1)] h0 (Q_own_law Z q1 h0 n0 ) := by
  refine ownBody (plainFor_of_name own_pn1) ?_
  intro p e s m below meth c T0 hx hby hml hret hlk hZ hown hnm X0 e0
  have N0 : Fr n0 [] := Fr.nil n0
  have hown : s.vm.findClass "com/example/oubliette/oubliette/engine/SeedCheckPinLaw" = some m.cls := hown
  refine ownVia (fun _ k => castTop (own_ef2 m q1) k) ?_
  show ownFin _ _ _ _ _ (T0.setTop (mkF m 0 #[.val (.long q1), .second, .unset, .unset] []))
  refine ownVia (fun _ k => XS.lloadN X0.here hx rfl (hb hby at_0) rfl k) ?_
  show ownFin _ _ _ _ _ (T0.setTop (mkF m 1 #[.val (.long q1), .second, .unset, .unset] [(.long q1)]))
  refine ownVia (fun _ k => X0.ldc2Long hx hown (mvT hZ (hw _ (List.mem_of_getElem? (i := 0) rfl))) (g := (mkF m 1 #[.val (.long q1), .second, .unset, .unset] [(.long q1)])) rfl (hb hby at_1) _ k) ?_
  show ownFin _ _ _ _ _ (T0.setTop (mkF m 4 #[.val (.long q1), .second, .unset, .unset] [(.long (9223372036854775807 : Int64)), (.long q1)]))
  refine ownVia (fun _ k => XS.land X0.here hx rfl (hb hby at_4) rfl k) ?_
  show ownFin _ _ _ _ _ (T0.setTop (mkF m 5 #[.val (.long q1), .second, .unset, .unset] [(.long (q1 &&& (9223372036854775807 : Int64)))]))
  refine ownVia (fun _ k => XS.lstoreN X0.here hx rfl (hb hby at_5) rfl (l' := #[.val (.long q1), .second, .val (.long (q1 &&& (9223372036854775807 : Int64))), .second]) rfl k) ?_
  show ownFin _ _ _ _ _ (T0.setTop (mkF m 6 #[.val (.long q1), .second, .val (.long (q1 &&& (9223372036854775807 : Int64))), .second] []))
  refine ownVia (fun _ k => XS.lloadN X0.here hx rfl (hb hby at_6) rfl k) ?_
  show ownFin _ _ _ _ _ (T0.setTop (mkF m 7 #[.val (.long q1), .second, .val (.long (q1 &&& (9223372036854775807 : Int64))), .second] [(.long (q1 &&& (9223372036854775807 : Int64)))]))
  refine ownCallS X0 hx hZ hown (hw _ (List.mem_of_getElem? (i := 1) rfl)) (hw _ (List.mem_of_getElem? (i := 2) rfl)) (hw _ (List.mem_of_getElem? (i := 3) rfl)) (hw _ (List.mem_of_getElem? (i := 4) rfl)) (by decide) e0 (own_check l Z a0 hw (q1 &&& (9223372036854775807 : Int64)) h0 n0 Z0 (own_nn q1)) (by rw [hml]; rfl) [(.long (q1 &&& (9223372036854775807 : Int64)))] [] (lenOf own_pd0 rfl) rfl rfl 0 rfl (hb hby at_7) (by decide) (by decide) (by decide) (by decide) ?_
  intro v3 T3 L3 X3 hq3
  obtain ⟨rfl, N3q, eq3⟩ := hq3
  have N3 := Fr.app N0 N3q
  have e3 : T3.heap = h0 := eq3
  show ownFin _ _ _ _ _ (T3.setTop (mkF m 10 #[.val (.long q1), .second, .val (.long (q1 &&& (9223372036854775807 : Int64))), .second] [(.long (q1 &&& (9223372036854775807 : Int64)))]))
  refine ownVia (fun _ k => XS.lloadN X3.here hx rfl (hb hby at_10) rfl k) ?_
  show ownFin _ _ _ _ _ (T3.setTop (mkF m 11 #[.val (.long q1), .second, .val (.long (q1 &&& (9223372036854775807 : Int64))), .second] [(.long (q1 &&& (9223372036854775807 : Int64))), (.long (q1 &&& (9223372036854775807 : Int64)))]))
  refine ownVia (fun _ k => XS.lcmp X3.here hx rfl (hb hby at_11) rfl k) ?_
  show ownFin _ _ _ _ _ (T3.setTop (mkF m 12 #[.val (.long q1), .second, .val (.long (q1 &&& (9223372036854775807 : Int64))), .second] [(.int (lcmpW (q1 &&& (9223372036854775807 : Int64)) (q1 &&& (9223372036854775807 : Int64))))]))
  refine ownVia (fun _ k => XS.ifNo X3.here hx rfl (hb hby at_12) rfl ((if0 _ _).trans (teq ((lw_eq _ _).mpr rfl)).2) k) ?_
  show ownFin _ _ _ _ _ (T3.setTop (mkF m 15 #[.val (.long q1), .second, .val (.long (q1 &&& (9223372036854775807 : Int64))), .second] []))
  refine ownVia (fun _ k => XS.iconst X3.here hx rfl (hb hby at_15) k) ?_
  show ownFin _ _ _ _ _ (T3.setTop (mkF m 16 #[.val (.long q1), .second, .val (.long (q1 &&& (9223372036854775807 : Int64))), .second] [(.int (1 : Int32))]))
  refine ownVia (fun _ k => XS.goto X3.here hx rfl (pc0 := 16) (pc' := 20) rfl (hb hby at_16) (by decide) (by decide) k) ?_
  show ownFin _ _ _ _ _ (T3.setTop (mkF m 20 #[.val (.long q1), .second, .val (.long (q1 &&& (9223372036854775807 : Int64))), .second] [(.int (1 : Int32))]))
  refine ownRetZ X3 hx hlk hret (hb hby at_20) (by decide) (by decide) (Or.inr rfl) ?_
  show (Q_own_law Z q1 h0 n0 ) (some (.int (1 : Int32))) T3.heap _
  rw [e3]
  exact ⟨rfl, N3⟩
set_option maxRecDepth 65536 in
set_option maxHeartbeats 40000000 in
theorem own_comes {Post : Tables → Env → Array Value → State → Outcome → State → Prop} (hpost : ∀ tb e args s v u, (limb_1_1.after args s (.returned v) u = true ∧ limb_1_2.after args s (.returned v) u = true ∧ True) → FrameEnd s (.returned v) u (Jvm.fieldLocs frame_1_writes args s ++ Jvm.arrayLocs frame_1_arrays args s ++ Jvm.staticLocs frame_1_statics s) 0 0 → Post tb e args s (.returned v) u) :
    ArmFor flags0 classFile x code maxLocals ret World_1 tables_1 room_1 Calls_1 rest_1 Pre_1 Post := by
  intro l hfl _ _ p e ha hc hk s m args below hf hA hF happ hP
  obtain ⟨hcalls, hrest, hpre⟩ := hP
  obtain ⟨-, -, -, hnamed, -, -, -, hat⟩ := (Spec.applies_iff hf).mp happ
  obtain ⟨hg, hn⟩ := and_e (Cond.before_iff.mp (show (Jvm.Cond.and given_1 narrow_1).before args s = true from hpre))
  obtain ⟨hcount, hg0⟩ := and_e hg
  obtain ⟨w0, rfl⟩ : ∃ w0 : Value, args = #[w0] := by
    have hs : args.size = 1 := by simpa [Cond.value, given_1] using hcount
    obtain ⟨L⟩ := args
    match L, hs with
    | [w0], _ => exact ⟨w0, rfl⟩
  have hw := fun d (hd : d ∈ tables_1) => atoms_spec (ws := Jvm.Cond.code x code maxLocals ret :: tables_1) hat d (List.mem_cons_of_mem _ hd)
  have hfit : Fit s := fun {y c} hc i hi => by
    obtain ⟨ha, rfl⟩ := Array.getElem?_eq_some_iff.mp hc
    have q := List.all_eq_true.mp ((Array.all_eq_true_iff_forall_mem.mp hF) _ (Array.getElem_mem ha)) i (List.mem_range.mpr hi)
    simpa [Array.getElem?_eq_getElem hi] using q
  obtain ⟨i0, ei0⟩ := isL_v hg0
  obtain rfl : w0 = (.long i0) := Option.some.inj ei0
  obtain ⟨n, o, h1, h2, h3, _, L, rfl, ⟨rfl, N⟩, hq⟩ := own_law l s _ hw tables_1 i0 s.heap s.heap.size  (Nat.le_refl _)  p e ha hc hk s m _ below hf ((Spec.applies_iff_loose hf).mp happ).1 ⟨rfl, State.Warmed39.refl s, rfl⟩ trivial
  refine ⟨n, _, h1, h2, h3, hpost _ _ _ _ _ _ ⟨Cond.after_iff.mpr rfl, Cond.after_iff.mpr (eq_i res_at (Term.int_eval (1)) rfl), trivial⟩ ⟨hq.1, hq.2.1, (hq.2.2.sift fun y hy => Or.inr (N y hy)).mono (by decide) (by decide)⟩⟩
theorem main_1_1 : Claimed_1_1 := own_comes fun _ _ _ _ _ _ h hF => ⟨h.1, hF⟩
theorem main_1_2 : Claimed_1_2 := own_comes fun _ _ _ _ _ _ h hF => ⟨h.2.1, hF⟩
end Jvm.Pilot.@@N@@
namespace Jvm.Pilot.@@N@@
open Jvm Jvm.ClassFile Sem Op Lib Jvm.Free Jvm.Stand Jvm.Pilot.@@N@@.Jvm.D
/-! MADE BY PROGRAM (witnessworld.py) out of the Statement's table words and the real class files: 7 classes; the members and pool entries that the words name. The judged class is class 1, her method 1. -/
namespace start1
open Jvm.ClassFile
def u (s : String) : CpInfo := .utf8 (stringToUtf16 s)
/-- a pool by its gaps: so many unusable entries, then the entry; so many at the end -/
def gap : Nat → List CpInfo → List CpInfo
  | 0, r => r
  | n + 1, r => .unusable :: gap n r
def poolList (es : List (Nat × CpInfo)) (last : Nat) : List CpInfo := es.foldr (fun e r => gap e.1 (e.2 :: r)) (gap last [])
def pool (es : List (Nat × CpInfo)) (last : Nat) : Array CpInfo := ⟨poolList es last⟩
def fileOf (pool : Array CpInfo) (this : Nat) (attrs : Array Attribute := #[]) (ms : Array MethodInfo := #[]) (fl : Nat := 33) (sup : Nat := 0) (ifs : Array Nat := #[]) (fds : Array FieldInfo := #[]) : ClassFile where
  minorVersion := 0
  majorVersion := 65
  constantPool := pool
  accessFlags := fl
  thisClass := this
  superClass := sup
  interfaces := ifs
  fields := fds
  methods := ms
  attributes := attrs
def plain (name : String) (sup : Option ClassId) : Class where
  name := name
  kind := .ordinary
  loader := none
  accessFlags := 33
  super := sup
  interfaces := #[]
  cf := none
  fields := #[]
  methods := #[]
  instanceTypes := #[]
  staticTypes := #[]
  resolved := #[]
  callSites := []
  init := .initialized
  statics := none
  mirror := none

def pool0 : Array CpInfo := pool [(5, u "<init>"), (0, u "()V"), (1, .class_ 10), (1, u "java/lang/Object")] 113

def k0m0 : Method := { name := "<init>", desc := "()V", sig := { parameters := [], returnType := none }, accessFlags := 1, code := none }
/-- java/lang/Object -/
def k0 : Class := { plain "java/lang/Object" none with
  accessFlags := 33
  interfaces := #[]
  cf := some (fileOf pool0 8 #[] #[{ accessFlags := 1, nameIndex := 5, descriptorIndex := 6, attributes := #[] }] 33 0 #[] #[])
  fields := #[]
  methods := #[k0m0]
  instanceTypes := #[]
  staticTypes := #[]
  resolved := Array.replicate 124 none
  statics := none }

def pool1 : Array CpInfo := pool [(2, .class_ 4), (1, u "java/lang/Object"), (0, u "<init>"), (0, u "()V"), (2, .long 9223372036854775807), (1, .methodref 12 13), (0, .class_ 14), (0, .nameAndType 15 16), (0, u "com/example/oubliette/oubliette/engine/Seed"), (0, u "check"), (0, u "(J)J"), (0, .class_ 18), (0, u "com/example/oubliette/oubliette/engine/SeedCheckPinLaw"), (2, u "law"), (0, u "(J)Z")] 3

def k1m0 : Method := { name := "<init>", desc := "()V", sig := { parameters := [], returnType := none }, accessFlags := 2, code := none }
def k1c1 : Code := { maxStack := 4, maxLocals := 4, code := code, exceptionTable := #[], attributes := #[] }
def k1m1 : Method := { name := "law", desc := "(J)Z", sig := { parameters := [.long], returnType := some .boolean }, accessFlags := 9, code := some k1c1 }
/-- com/example/oubliette/oubliette/engine/SeedCheckPinLaw -/
def k1 : Class := { plain "com/example/oubliette/oubliette/engine/SeedCheckPinLaw" (some 0) with
  accessFlags := 49
  interfaces := #[]
  cf := some (fileOf pool1 17 #[] #[{ accessFlags := 2, nameIndex := 5, descriptorIndex := 6, attributes := #[] }, { accessFlags := 9, nameIndex := 21, descriptorIndex := 22, attributes := #[] }] 49 2 #[] #[])
  fields := #[]
  methods := #[k1m0, k1m1]
  instanceTypes := #[]
  staticTypes := #[]
  resolved := Array.replicate 26 none
  statics := none }

def pool2 : Array CpInfo := pool [(4, .class_ 6), (1, u "java/lang/Object"), (0, u "<init>"), (0, u "()V"), (35, .class_ 45), (0, u "com/example/oubliette/oubliette/engine/Seed"), (0, u "FORM"), (0, u "Ljava/lang/String;"), (7, u "check"), (0, u "(J)J")] 21

def k2m0 : Method := { name := "<init>", desc := "()V", sig := { parameters := [], returnType := none }, accessFlags := 2, code := none }
def k2c1 : Code := { maxStack := 4, maxLocals := 2, code := prog_22_method_3_code, exceptionTable := #[], attributes := #[] }
def k2m1 : Method := { name := "check", desc := "(J)J", sig := { parameters := [.long], returnType := some .long }, accessFlags := 8, code := some k2c1 }
/-- com/example/oubliette/oubliette/engine/Seed -/
def k2 : Class := { plain "com/example/oubliette/oubliette/engine/Seed" (some 0) with
  accessFlags := 49
  interfaces := #[]
  cf := some (fileOf pool2 44 #[] #[{ accessFlags := 2, nameIndex := 7, descriptorIndex := 8, attributes := #[] }, { accessFlags := 8, nameIndex := 55, descriptorIndex := 56, attributes := #[] }] 49 4 #[] #[{ accessFlags := 26, nameIndex := 46, descriptorIndex := 47, attributes := #[] }])
  fields := #[{ name := "FORM", type := (.object "java/lang/String"), accessFlags := 26, slot := 0, constantValue := 0 }]
  methods := #[k2m0, k2m1]
  instanceTypes := #[]
  staticTypes := #[(.object "java/lang/String")]
  resolved := Array.replicate 78 none
  statics := none }

def pool3 : Array CpInfo := pool [(1, u "java/lang/Cloneable"), (0, .class_ 1), (0, u "java/lang/Object"), (0, .class_ 3)] 3

/-- java/lang/Cloneable -/
def k3 : Class := { plain "java/lang/Cloneable" (some 0) with
  accessFlags := 1537
  interfaces := #[]
  cf := some (fileOf pool3 2 #[] #[] 1537 4 #[] #[])
  fields := #[]
  methods := #[]
  instanceTypes := #[]
  staticTypes := #[]
  resolved := Array.replicate 8 none
  statics := none }

def pool4 : Array CpInfo := pool [(1, u "java/io/Serializable"), (0, .class_ 1), (0, u "java/lang/Object"), (0, .class_ 3)] 3

/-- java/io/Serializable -/
def k4 : Class := { plain "java/io/Serializable" (some 0) with
  accessFlags := 1537
  interfaces := #[]
  cf := some (fileOf pool4 2 #[] #[] 1537 4 #[] #[])
  fields := #[]
  methods := #[]
  instanceTypes := #[]
  staticTypes := #[]
  resolved := Array.replicate 8 none
  statics := none }

/-- the primitive byte -/
def k5 : Class := { plain "byte" none with kind := .primitive 'B', accessFlags := 0x411 }
/-- [B -/
def k6 : Class := { plain "[B" (some 0) with kind := .array 5 .byte, interfaces := #[3, 4], accessFlags := 1041 }

def heap : Heap := #[]
def classes : Array Class := #[k0, k1, k2, k3, k4, k5, k6]
def interned : List (Array UInt16 × Addr) := []
def slotsUsed : Nat := 0
def theMethod : MethodId := ⟨1, 1⟩
def args0 : Array Value := #[.long 5]
def aboutOver (below : List Frame) : State where
  vm := { classes := classes, interned := interned.toArray }
  heap := heap
  slotsUsed := slotsUsed
  threads := #[{ frames := .invoking theMethod args0 :: below }]
def below0 : List Frame := [.native { method := ⟨0, 0⟩, args := #[] }]
def about1 : State := aboutOver below0
def p0 : Program := .bare "" "" ""
def e0 : Env := launch0.env 0 0 0
theorem w_frames : about1.frames = Frame.invoking theMethod args0 :: below0 := rfl
set_option maxRecDepth 65536 in
theorem w_args : argsFit about1.vm theMethod args0 = true := by decide +kernel
set_option maxRecDepth 65536 in
theorem w_heap : heapFits about1 = true := by decide +kernel
set_option maxRecDepth 65536 in
theorem w_runnable : about1.curStatus? = some .runnable := by decide +kernel
set_option maxRecDepth 65536 in
theorem w_alone : about1.alone = true := by decide +kernel
set_option maxRecDepth 65536 in
theorem w_named : about1.methodNamed? x = some theMethod := by decide +kernel
set_option maxRecDepth 65536 in
theorem w_hears : about1.hears theMethod below0 = true := by decide +kernel
set_option maxRecDepth 65536 in
theorem w_ripe : about1.ripe theMethod args0 below0 = true := by decide +kernel
theorem w_running : about1.status = .running := rfl
set_option maxRecDepth 65536 in
theorem w_room : about1.hasRoom e0.platform room_1 = true :=
  launch0.hasRoom_least _ room_1 (by decide +kernel) (by decide +kernel) (by decide +kernel) (by decide +kernel) (by decide +kernel) (by decide +kernel)
theorem allAtoms_all (ts : List Jvm.Cond) (a : Array Jvm.Value) (st : Jvm.State) : (allAtoms ts).before a st = ts.all (fun c => c.before a st) := by
  induction ts with
  | nil => rfl
  | cons c t ih =>
    show (Jvm.Cond.and c (allAtoms t)).before a st = _
    rw [Jvm.Cond.before_and, ih, List.all_cons]
def words1 : List Jvm.Cond := Jvm.Cond.code x code maxLocals ret :: tables_1
/-- a 'code' word, met by the world's own term for the bytes: nothing is compared byte by byte -/
theorem code_word {y : MethodName} {bytes : ByteArray} {mx : Nat} {rt : Option FieldType} {a : Array Value} {s : State} {m : MethodId} {meth : Method} {c : Code} (h1 : s.methodNamed? y = some m) (h2 : s.vm.method? m = some meth) (h3 : meth.code = some c) (h4 : c.code = bytes)
    (h5 : (c.maxLocals == mx && c.exceptionTable.isEmpty && decide (c.maxStack ≤ mostOperands) && decide (meth.sig.returnType = rt) && !meth.locks && decide (parseMethodDescriptor y.desc = some meth.sig)) = true) : (Jvm.Cond.code y bytes mx rt).before a s = true := by
  simp only [Bool.and_eq_true, beq_iff_eq, Bool.not_eq_true', decide_eq_true_eq] at h5
  obtain ⟨⟨⟨⟨⟨g1, g2⟩, g3⟩, g4⟩, g5⟩, g6⟩ := h5
  simp [Cond.before, Cond.holds, Cond.value, h1, h2, h3, h4, g1, g2, g3, g4, g5, g6]
def isCode : Jvm.Cond → Bool
  | .code _ _ _ _ => true
  | _ => false
theorem all_split {L : List Jvm.Cond} {P : Jvm.Cond → Bool} (h1 : L.all (fun c => isCode c || P c) = true) (h2 : ∀ c ∈ L.filter isCode, P c = true) : L.all P = true := by
  refine List.all_eq_true.mpr fun c hc => ?_
  have h := List.all_eq_true.mp h1 c hc
  rcases Bool.eq_false_or_eq_true (isCode c) with hi | hi
  · exact h2 c (List.mem_filter.mpr ⟨hc, hi⟩)
  · simpa [hi] using h
set_option maxRecDepth 65536 in
theorem w_c0 : (Jvm.Cond.code x code maxLocals ret).before args0 about1 = true := code_word (m := ⟨1, 1⟩) (meth := k1m1) (c := k1c1) (by decide +kernel) rfl rfl rfl (by decide +kernel)
set_option maxRecDepth 65536 in
theorem w_c1 : (Jvm.Cond.code ({ cls := "com/example/oubliette/oubliette/engine/Seed", name := "check", desc := "(J)J" } : Jvm.MethodName) prog_22_method_3_code (2 : Nat) (Option.some Jvm.ClassFile.FieldType.long)).before args0 about1 = true := code_word (m := ⟨2, 1⟩) (meth := k2m1) (c := k2c1) (by decide +kernel) rfl rfl rfl (by decide +kernel)
def codes1 : List Jvm.Cond := [Jvm.Cond.code x code maxLocals ret, Jvm.Cond.code ({ cls := "com/example/oubliette/oubliette/engine/Seed", name := "check", desc := "(J)J" } : Jvm.MethodName) prog_22_method_3_code (2 : Nat) (Option.some Jvm.ClassFile.FieldType.long)]
set_option maxRecDepth 65536 in
theorem codes_eq : words1.filter isCode = codes1 := rfl
theorem w_codes : ∀ c ∈ words1.filter isCode, c.before args0 about1 = true := by
  rw [codes_eq]
  intro c hc
  simp only [codes1, List.mem_cons, List.not_mem_nil, or_false] at hc
  rcases hc with rfl | rfl
  · exact w_c0
  · exact w_c1
set_option maxRecDepth 65536 in
theorem w_t1 : words1.all (fun c => isCode c || c.before args0 about1) = true := by decide +kernel
theorem w_tables : (allAtoms (Jvm.Cond.code x code maxLocals ret :: tables_1)).before args0 about1 = true := by
  rw [allAtoms_all]
  show words1.all (fun c => c.before args0 about1) = true
  refine all_split ?_ w_codes
  rw [w_t1]
set_option maxRecDepth 65536 in
theorem w_case : (Jvm.Cond.and given_1 narrow_1).before args0 about1 = true := by decide +kernel
theorem w_applies : (headSpec (Jvm.Cond.code x code maxLocals ret :: tables_1) room_1).applies x e0.platform about1 = true :=
  (Spec.applies_iff w_frames).mpr ⟨w_running, w_runnable, w_alone, w_named, w_hears, w_ripe, w_room, w_tables⟩
theorem atStart : AtStart classFile x code maxLocals ret World_1 tables_1 room_1 Calls_1 rest_1 Pre_1 launch0 p0 e0 about1 theMethod args0 below0 :=
  ⟨lists_1, trivial, launch0.admits_env _ _ _, launch0.least_env, fairChoices_fair.cas, fairChoices_fair.clock, w_frames, w_args, w_heap, w_applies, trivial, trivial, w_case⟩
end start1
theorem witness_1 : WitnessClaimed_1 := ⟨start1.p0, start1.e0, start1.about1, start1.theMethod, start1.args0, start1.below0, start1.atStart⟩
end Jvm.Pilot.@@N@@
