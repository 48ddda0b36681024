import JvmDerived
import JvmDerived.Pilot.@@N@@Statement
import JvmDerived.Pilot.@@N@@Code
set_option linter.unusedVariables false
set_option linter.unusedSimpArgs false
namespace Jvm.Pilot.@@N@@
open Jvm Jvm.ClassFile Sem Op Lib Jvm.Free Jvm.Stand Jvm.LawKit Jvm.RoadKit Bundle Jvm.Pilot.@@N@@.Jvm.D
section Own
variable {p : Program} {l : Launch} {e : Env} {R : Room} {s : State} {m : MethodId} {args : Array Value} {below : List Frame} {meth : Method} {c : Code} {T : State} {locs : List Loc} {cells slots : Nat} {Z : State} {a0 : Array Value} {h : Heap} {Q : Option Value → Heap → List Loc → Prop} {C S : Nat} {u u' : State} {F : Outcome → State → List Loc → Prop}
/-- from u the invocation comes to its end, and Q holds of what it returns, of the heap and of the places written -/
def ownFin (p : Program) (e : Env) (below : List Frame) (F : Outcome → State → List Loc → Prop) (Q : Option Value → Heap → List Loc → Prop) (u : State) : Prop :=
  ∃ t o, Steps p.tables e below u t ∧ t.status = .running ∧ Ended t below o ∧ ∃ v L, o = .returned v ∧ Q v t.heap L ∧ F o t L
/-- how it ends: at most C new cells of S slots, the tables warmer, nothing old written but at the places L -/
def ownFE (s : State) (C S : Nat) : Outcome → State → List Loc → Prop := fun o t L => FrameEnd s o t L C S
theorem ownVia (f : ∀ t, Steps p.tables e below u' t → Steps p.tables e below u t) (k : ownFin p e below F Q u') : ownFin p e below F Q u := by
  obtain ⟨t, o, h1, r⟩ := k
  exact ⟨t, o, f t h1, r⟩
theorem ownRet (X : Stand p l e R s m args below meth c T locs cells slots) (hlk : meth.locks = false) {v : Option Value} (hv : meth.sig.returnType = none → v = none)
    (f : ∀ fs, (∀ (f : JFrame) (acts : List Action), f.method = m → f.locked = none → f.entered = [] → (doReturn e (T.setTop f) acts v).1 = T.setFrames fs) → Steps p.tables e below u (T.setFrames fs))
    (hC : cells ≤ C) (hS : slots ≤ S) (hQ : Q v T.heap locs) : ownFin p e below (ownFE s C S) Q u := by
  obtain ⟨fs, hr, hrun, hended, hW, hsame⟩ := X.leave (v := v) hv hlk
  exact ⟨_, _, f fs hr, hrun, hended, v, _, rfl, hQ, ⟨_, rfl⟩, hW, hsame.mono hC hS⟩
theorem ownRetI (X : Stand p l e R s m args below meth c T locs cells slots) (hx : p.tables.exec = Jvm.exec) (hlk : meth.locks = false) (hret : meth.sig.returnType = some .int) {pc : Nat} {Ls : Array Slot} {z : Int32} {rest : List Value} (hd : decode c.code pc = .ok (.ireturn, 1)) (hC : cells ≤ C) (hS : slots ≤ S) (hQ : Q (some (.int z)) T.heap locs) : ownFin p e below (ownFE s C S) Q (T.setTop (mkF m pc Ls (.int z :: rest))) :=
  ownRet X hlk (v := some (.int z)) (fun q => by rw [hret] at q; cases q) (fun fs hr => retOut X hx hret rfl (Or.inl ⟨rfl, Or.inl rfl, z, rfl⟩) hd hr) hC hS hQ
theorem ownRetZ (X : Stand p l e R s m args below meth c T locs cells slots) (hx : p.tables.exec = Jvm.exec) (hlk : meth.locks = false) (hret : meth.sig.returnType = some .boolean) {pc : Nat} {Ls : Array Slot} {z : Int32} {rest : List Value} (hd : decode c.code pc = .ok (.ireturn, 1)) (hC : cells ≤ C) (hS : slots ≤ S) (hz : z = 0 ∨ z = 1) (hQ : Q (some (.int z)) T.heap locs) : ownFin p e below (ownFE s C S) Q (T.setTop (mkF m pc Ls (.int z :: rest))) :=
  ownRet X hlk (v := some (.int z)) (fun q => by rw [hret] at q; cases q) (fun fs hr => retOut X hx hret (by rcases hz with rfl | rfl <;> rfl) (Or.inl ⟨rfl, Or.inr (Or.inl rfl), z, rfl⟩) hd hr) hC hS hQ
theorem ownRetJ (X : Stand p l e R s m args below meth c T locs cells slots) (hx : p.tables.exec = Jvm.exec) (hlk : meth.locks = false) (hret : meth.sig.returnType = some .long) {pc : Nat} {Ls : Array Slot} {z : Int64} {rest : List Value} (hd : decode c.code pc = .ok (.lreturn, 1)) (hC : cells ≤ C) (hS : slots ≤ S) (hQ : Q (some (.long z)) T.heap locs) : ownFin p e below (ownFE s C S) Q (T.setTop (mkF m pc Ls (.long z :: rest))) :=
  ownRet X hlk (v := some (.long z)) (fun q => by rw [hret] at q; cases q) (fun fs hr => retOut X hx hret rfl (Or.inr (Or.inl ⟨rfl, rfl, z, rfl⟩)) hd hr) hC hS hQ
theorem ownRetA (X : Stand p l e R s m args below meth c T locs cells slots) (hx : p.tables.exec = Jvm.exec) (hlk : meth.locks = false) {ty : FieldType} (hret : meth.sig.returnType = some ty) (hty : ty.isReference = true) {pc : Nat} {Ls : Array Slot} {a : Addr} {rest : List Value} (hd : decode c.code pc = .ok (.areturn, 1)) (hC : cells ≤ C) (hS : slots ≤ S) (hQ : Q (some (.ref a)) T.heap locs) : ownFin p e below (ownFE s C S) Q (T.setTop (mkF m pc Ls (.ref a :: rest))) :=
  ownRet X hlk (v := some (.ref a)) (fun q => by rw [hret] at q; cases q) (fun fs hr => retOut X hx hret (by cases ty <;> first | rfl | cases hty) (Or.inr (Or.inr (Or.inr (Or.inr ⟨rfl, hty, rfl⟩)))) hd hr) hC hS hQ
theorem ownRetV (X : Stand p l e R s m args below meth c T locs cells slots) (hx : p.tables.exec = Jvm.exec) (hlk : meth.locks = false) (hret : meth.sig.returnType = none) {pc : Nat} {Ls : Array Slot} (hd : decode c.code pc = .ok (.return_, 1)) (hC : cells ≤ C) (hS : slots ≤ S) (hQ : Q none T.heap locs) : ownFin p e below (ownFE s C S) Q (T.setTop (mkF m pc Ls [])) :=
  ownRet X hlk (v := none) (fun _ => rfl) (fun fs hr => X.returnOut hx hret hd hr) hC hS hQ
/-- the contract of a method at given arguments and a given heap -/
abbrev ownMet (l : Launch) (Z : State) (y : MethodName) (bytes : ByteArray) (maxL : Nat) (ret : Option FieldType) (ws : List Jvm.Cond) (rm : Room) (as' : Array Value) (h0 : Heap) (Q : Option Value → Heap → List Loc → Prop) : Prop :=
  MetFree l y (head1 (Jvm.Cond.code y bytes maxL ret :: ws) rm) (fun a U => a = as' ∧ Z.Warmed39 U.vm ∧ U.heap = h0) (fun _ _ _ _ _ => True) (fun _ U o U' => ∃ v L, o = .returned v ∧ Q v U'.heap L ∧ FrameEnd U o U' L rm.cells rm.slots)
theorem ownBody {y : MethodName} {bytes : ByteArray} {maxL : Nat} {ret : Option FieldType} {ws : List Jvm.Cond} {rm : Room} {as' : Array Value} {h0 : Heap} (hpl : plainFor y = true)
    (H : ∀ (p : Program) (e : Env) (s : State) (m : MethodId) (below : List Frame) (meth : Method) (c : Code) (T : State), p.tables.exec = Jvm.exec → c.code = bytes → c.maxLocals = maxL → meth.sig.returnType = ret → meth.locks = false → Z.Warmed39 s.vm → s.vm.findClass y.cls = some m.cls → meth.name = y.name →
      Stand p l e rm s m as' below meth c T [] 0 0 → T.heap = h0 → ownFin p e below (ownFE s rm.cells rm.slots) Q (T.setTop (entryFrame m as' maxL))) : ownMet l Z y bytes maxL ret ws rm as' h0 Q := by
  refine MetFree.of_bodySF hpl hisR ?_
  intro p e s m args below meth c s₁ Bd hml0 hP hK
  obtain ⟨rfl, hZ, hh⟩ := hP
  exact H p e s m below meth c s₁ Bd.exec Bd.bytes hml0 Bd.returns Bd.notSynchronized hZ (findClass_of_methodNamed Bd.named) (name_of_methodNamed Bd.named Bd.method).1 (Stand.of_body Bd) (by rw [← hh, Bd.state]; rfl)
theorem ownCallS {own : String} {index : Nat} {y : MethodName} {bytes : ByteArray} {maxL : Nat} {ret : Option FieldType} {rm : Room} {as' : Array Value} {Q' : Option Value → Heap → List Loc → Prop}
    (X : Stand p l e R s m args below meth c T locs cells slots) (hx : p.tables.exec = Jvm.exec) (hZ : Z.Warmed39 s.vm) (hown : s.vm.findClass own = some m.cls)
    (w1 : (Jvm.Cond.methodLink own index y).before a0 Z = true) (w2 : (Jvm.Cond.static y).before a0 Z = true) (w3 : (Jvm.Cond.initialized y.cls).before a0 Z = true) (w4 : (Jvm.Cond.code y bytes maxL ret).before a0 Z = true)
    (hy : y.cls ≠ "java/lang/invoke/MethodHandle" ∧ y.cls ≠ "java/lang/invoke/VarHandle") (eT : T.heap = h) (hM : ownMet l Z y bytes maxL ret [] rm as' h Q')
    {pc : Nat} {Ls : Array Slot} {st : List Value} (hsz : Ls.size = c.maxLocals) (argsL rest : List Value) (hlen : ∀ sig, parseMethodDescriptor y.desc = some sig → argsL.length = sig.parameters.length)
    (hst : st = argsL.reverse ++ rest) (has : argsL.toArray = as') (W : Nat) (hW : (rest.map fun v => v.category).sum = W) (hd : decode c.code pc = .ok (.invokestatic index, 3))
    (hfr : rm.frames + 1 ≤ R.frames) (hlo : W + (maxL + 11) + rm.locals ≤ R.locals) (hce : cells + rm.cells ≤ R.cells) (hsl : slots + rm.slots ≤ R.slots)
    (K : ∀ v T' L', Stand p l e R s m args below meth c T' (locs ++ L') (cells + rm.cells) (slots + rm.slots) → Q' v T'.heap L' → ownFin p e below F Q (T'.setTop (mkF m (pc + 3) Ls (v.toList ++ rest)))) :
    ownFin p e below F Q (T.setTop (mkF m pc Ls st)) := by
  obtain ⟨v, _, ⟨T2, L2, k2, n2⟩, -, X2, ⟨Lc2, hQ2, l2, y2, z2⟩, st2⟩ := Jvm.LawKit.callS X hx (y := y) hown (mvT hZ w1) (mvT hZ w2) (mvT hZ w3) (mvT hZ w4) hy (backOf (W := W) hM hZ w4 w3 hfr hlo) (g := mkF m pc Ls st) rfl hsz (argsL := argsL) (rest := rest) hlen hst (by show 2 * 0 + _ ≤ _; omega) hd (fun _ _ => ⟨has, eT, hce, hsl⟩)
  dsimp only [Pt.U, Pt.locs, Pt.cells, Pt.slots] at X2 l2 y2 z2 st2 hQ2
  subst l2 y2 z2
  exact ownVia st2 (K v T2 Lc2 X2 hQ2)
theorem ownCallN {own : String} {index : Nat} {y : MethodName} {bytes : ByteArray} {maxL : Nat} {rm : Room} {as' : Array Value} {Q' : Option Value → Heap → List Loc → Prop}
    (X : Stand p l e R s m args below meth c T locs cells slots) (hx : p.tables.exec = Jvm.exec) (hZ : Z.Warmed39 s.vm) (hown : s.vm.findClass own = some m.cls) (hy1 : y.name = "<init>")
    (w1 : (Jvm.Cond.methodLink own index y).before a0 Z = true) (w2 : (Jvm.Cond.instanceMethod y).before a0 Z = true) (w3 : (Jvm.Cond.initialized y.cls).before a0 Z = true) (w4 : (Jvm.Cond.code y bytes maxL none).before a0 Z = true)
    (hy : y.cls ≠ "java/lang/invoke/MethodHandle" ∧ y.cls ≠ "java/lang/invoke/VarHandle") (eT : T.heap = h) (hM : ownMet l Z y bytes maxL none [] rm as' h Q')
    {pc : Nat} {Ls : Array Slot} {st : List Value} (hsz : Ls.size = c.maxLocals) (a : Addr) (argsL rest : List Value) (hlen : ∀ sig, parseMethodDescriptor y.desc = some sig → argsL.length = sig.parameters.length)
    (hst : st = argsL.reverse ++ .ref a :: rest) (has : (Value.ref a :: argsL).toArray = as') (W : Nat) (hW : (rest.map fun v => v.category).sum = W) (hd : decode c.code pc = .ok (.invokespecial index, 3))
    (hfr : rm.frames + 1 ≤ R.frames) (hlo : W + (maxL + 11) + rm.locals ≤ R.locals) (hce : cells + rm.cells ≤ R.cells) (hsl : slots + rm.slots ≤ R.slots)
    (K : ∀ v T' L', Stand p l e R s m args below meth c T' (locs ++ L') (cells + rm.cells) (slots + rm.slots) → Q' v T'.heap L' → ownFin p e below F Q (T'.setTop (mkF m (pc + 3) Ls (v.toList ++ rest)))) :
    ownFin p e below F Q (T.setTop (mkF m pc Ls st)) := by
  obtain ⟨v, _, ⟨T2, L2, k2, n2⟩, -, X2, ⟨Lc2, hQ2, l2, y2, z2⟩, st2⟩ := X.specialBack hx (y := y) hy1 hown (mvT hZ w1) (mvT hZ w2) (mvT hZ w4) hy (backOf (W := W) hM hZ w4 w3 hfr hlo) (g := mkF m pc Ls st) rfl hsz (Steps.refl _) (a := a) (argsL := argsL) (rest := rest) hlen hst (by show 2 * 0 + _ ≤ _; omega) hd (fun _ _ => ⟨has, eT, hce, hsl⟩)
  dsimp only [Pt.U, Pt.locs, Pt.cells, Pt.slots] at X2 l2 y2 z2 st2 hQ2
  subst l2 y2 z2
  exact ownVia (fun _ k => st2.trans k) (K v T2 Lc2 X2 hQ2)
theorem ownCallV {own C' : String} {index : Nat} {y z : MethodName} {bytes : ByteArray} {maxL : Nat} {ret : Option FieldType} {rm : Room} {as' : Array Value} {Q' : Option Value → Heap → List Loc → Prop}
    (X : Stand p l e R s m args below meth c T locs cells slots) (hx : p.tables.exec = Jvm.exec) (hZ : Z.Warmed39 s.vm) (hown : s.vm.findClass own = some m.cls)
    (w1 : (Jvm.Cond.methodLink own index y).before a0 Z = true) (w2 : (Jvm.Cond.declares y).before a0 Z = true) (w5 : (Jvm.Cond.selects y.cls y y).before a0 Z = true) (w6 : (Jvm.Cond.selects C' y z).before a0 Z = true) (w7 : (Jvm.Cond.instanceMethod z).before a0 Z = true) (w3 : (Jvm.Cond.initialized z.cls).before a0 Z = true) (w4 : (Jvm.Cond.code z bytes maxL ret).before a0 Z = true)
    (hy : y.cls ≠ "java/lang/invoke/MethodHandle" ∧ y.cls ≠ "java/lang/invoke/VarHandle") (eT : T.heap = h) {a : Addr} (E : Exa Z h a C') (hM : ownMet l Z z bytes maxL ret [] rm as' h Q')
    {pc : Nat} {Ls : Array Slot} {st : List Value} (hsz : Ls.size = c.maxLocals) (argsL rest : List Value) (hlen : ∀ sig, parseMethodDescriptor y.desc = some sig → argsL.length = sig.parameters.length)
    (hst : st = argsL.reverse ++ .ref a :: rest) (has : (Value.ref a :: argsL).toArray = as') (W : Nat) (hW : (rest.map fun v => v.category).sum = W) (hd : decode c.code pc = .ok (.invokevirtual index, 3))
    (hfr : rm.frames + 1 ≤ R.frames) (hlo : W + (maxL + 11) + rm.locals ≤ R.locals) (hce : cells + rm.cells ≤ R.cells) (hsl : slots + rm.slots ≤ R.slots)
    (K : ∀ v T' L', Stand p l e R s m args below meth c T' (locs ++ L') (cells + rm.cells) (slots + rm.slots) → Q' v T'.heap L' → ownFin p e below F Q (T'.setTop (mkF m (pc + 3) Ls (v.toList ++ rest)))) :
    ownFin p e below F Q (T.setTop (mkF m pc Ls st)) := by
  obtain ⟨cq, kq, qa, qb, qc⟩ := isOf hZ eT E
  obtain ⟨v, _, ⟨T2, L2, k2, n2⟩, -, X2, ⟨Lc2, hQ2, l2, y2, z2⟩, st2⟩ := X.virtualBack hx (y := y) (z := z) hown (mvT hZ w1) (mvT hZ w2) (notFace_of_selects (args := #[]) (mvT hZ w5)) (mvT hZ w6) (mvT hZ w7) hy (backOf (W := W) hM hZ w4 w3 hfr hlo) qa qc (g := mkF m pc Ls st) rfl hsz (Steps.refl _) (argsL := argsL) (rest := rest) hlen hst (by show 2 * 0 + _ ≤ _; omega) hd (fun _ _ => ⟨has, eT, hce, hsl⟩)
  dsimp only [Pt.U, Pt.locs, Pt.cells, Pt.slots] at X2 l2 y2 z2 st2 hQ2
  subst l2 y2 z2
  exact ownVia (fun _ k => st2.trans k) (K v T2 Lc2 X2 hQ2)
theorem ownLen {a : Addr} {k : ClassId} {ty : FieldType} {z : Int32} {vs : List Value} {dv : Value} (X : Stand p l e R s m args below meth c T locs cells slots) (hx : p.tables.exec = Jvm.exec) (hZ : Z.Warmed39 s.vm) (eT : T.heap = h) (A : Arv Z h a k ty z vs dv) {pc : Nat} {Ls : Array Slot} {rest : List Value} (hd : decode c.code pc = .ok (.arraylength, 1))
    (K : ownFin p e below F Q (T.setTop (mkF m (pc + 1) Ls (.int z :: rest)))) : ownFin p e below F Q (T.setTop (mkF m pc Ls (.ref a :: rest))) := by
  obtain ⟨cl, Ar, -, Sz, Nz, -, -⟩ := A
  rw [← len_of Sz Nz] at K
  exact ownVia (fun t k => X.arraylength hx (by rw [eT]; exact Ar.1) (State.isArrayOf_alike hZ.alike Ar.2.1) (g := mkF m pc Ls (.ref a :: rest)) rfl rfl hd t k) K
theorem ownBaload {a : Addr} {k : ClassId} {z j : Int32} {vs : List Value} {dv v : Value} (X : Stand p l e R s m args below meth c T locs cells slots) (hx : p.tables.exec = Jvm.exec) (hZ : Z.Warmed39 s.vm) (eT : T.heap = h) (A : Arv Z h a k .byte z vs dv) (hj : ¬ j < 0 ∧ j < z) (hv : vs.getD j.toNatClampNeg dv = v) {pc : Nat} {Ls : Array Slot} {rest : List Value} (hd : decode c.code pc = .ok (.baload, 1))
    (K : ownFin p e below F Q (T.setTop (mkF m (pc + 1) Ls (v :: rest)))) : ownFin p e below F Q (T.setTop (mkF m pc Ls (.int j :: .ref a :: rest))) := by
  obtain ⟨cl, Ar, -, Sz, Nz, H, -⟩ := A
  have hin := inb_of Sz hj
  exact ownVia (fun t k => X.baloadBytes hx (by rw [eT]; exact Ar.1) (State.isArrayOf_alike hZ.alike Ar.2.1) Ar.2.2 hin (H.at hin hv) (g := mkF m pc Ls (.int j :: .ref a :: rest)) rfl rfl hd t k) K
theorem ownIaload {a : Addr} {k : ClassId} {z j : Int32} {vs : List Value} {dv v : Value} (X : Stand p l e R s m args below meth c T locs cells slots) (hx : p.tables.exec = Jvm.exec) (hZ : Z.Warmed39 s.vm) (eT : T.heap = h) (A : Arv Z h a k .int z vs dv) (hj : ¬ j < 0 ∧ j < z) (hv : vs.getD j.toNatClampNeg dv = v) {pc : Nat} {Ls : Array Slot} {rest : List Value} (hd : decode c.code pc = .ok (.iaload, 1))
    (K : ownFin p e below F Q (T.setTop (mkF m (pc + 1) Ls (v :: rest)))) : ownFin p e below F Q (T.setTop (mkF m pc Ls (.int j :: .ref a :: rest))) := by
  obtain ⟨cl, Ar, -, Sz, Nz, H, -⟩ := A
  have hin := inb_of Sz hj
  exact ownVia (fun t k => X.iaload hx (by rw [eT]; exact Ar.1) (State.isArrayOf_alike hZ.alike Ar.2.1) Ar.2.2 hin (H.at hin hv) (g := mkF m pc Ls (.int j :: .ref a :: rest)) rfl rfl hd t k) K
theorem ownLaload {a : Addr} {k : ClassId} {z j : Int32} {vs : List Value} {dv v : Value} (X : Stand p l e R s m args below meth c T locs cells slots) (hx : p.tables.exec = Jvm.exec) (hZ : Z.Warmed39 s.vm) (eT : T.heap = h) (A : Arv Z h a k .long z vs dv) (hj : ¬ j < 0 ∧ j < z) (hv : vs.getD j.toNatClampNeg dv = v) {pc : Nat} {Ls : Array Slot} {rest : List Value} (hd : decode c.code pc = .ok (.laload, 1))
    (K : ownFin p e below F Q (T.setTop (mkF m (pc + 1) Ls (v :: rest)))) : ownFin p e below F Q (T.setTop (mkF m pc Ls (.int j :: .ref a :: rest))) := by
  obtain ⟨cl, Ar, -, Sz, Nz, H, -⟩ := A
  have hin := inb_of Sz hj
  exact ownVia (fun t k => X.laload hx (by rw [eT]; exact Ar.1) (State.isArrayOf_alike hZ.alike Ar.2.1) Ar.2.2 hin (H.at hin hv) (g := mkF m pc Ls (.int j :: .ref a :: rest)) rfl rfl hd t k) K
theorem ownBastore {a : Addr} {k : ClassId} {z j x : Int32} {vs : List Value} {dv : Value} {n0 : Nat} (X : Stand p l e R s m args below meth c T locs cells slots) (hx : p.tables.exec = Jvm.exec) (hZ : Z.Warmed39 s.vm) (eT : T.heap = h) (A : Arv Z h a k .byte z vs dv) (hj : ¬ j < 0 ∧ j < z) (i : Nat) (hi : j.toNatClampNeg = i) (hl : i < vs.length) (N : Fr n0 locs) (ge : n0 ≤ a) {pc : Nat} {Ls : Array Slot} {rest : List Value} (hd : decode c.code pc = .ok (.bastore, 1))
    (K : ∀ T' h' L', Stand p l e R s m args below meth c T' L' cells slots → T'.heap = h' → Fr n0 L' → Wr h h' a i (.int (nar .byte x)) → Arv Z h' a k .byte z (vs.set i (.int (nar .byte x))) dv → ownFin p e below F Q (T'.setTop (mkF m (pc + 1) Ls rest))) :
    ownFin p e below F Q (T.setTop (mkF m pc Ls (.int x :: .int j :: .ref a :: rest))) := by
  obtain ⟨cl, Ar, q1, Sz, Nz, H, G⟩ := A
  obtain ⟨T', h', X', e', W, st⟩ := stB X hx hZ eT Ar (j := j) (x := x) (inb_of Sz hj) (g := mkF m pc Ls (.int x :: .int j :: .ref a :: rest)) rfl rfl hd
  have N' := Fr.snoc X' N ge
  have A' := Arv.set Ar q1 Sz Nz H G (fits_nar_byte x) W i hi hl
  rw [hi] at W
  exact ownVia st (K T' h' _ X' e' N' W A')
theorem ownIastore {a : Addr} {k : ClassId} {z j x : Int32} {vs : List Value} {dv : Value} {n0 : Nat} (X : Stand p l e R s m args below meth c T locs cells slots) (hx : p.tables.exec = Jvm.exec) (hZ : Z.Warmed39 s.vm) (eT : T.heap = h) (A : Arv Z h a k .int z vs dv) (hj : ¬ j < 0 ∧ j < z) (i : Nat) (hi : j.toNatClampNeg = i) (hl : i < vs.length) (N : Fr n0 locs) (ge : n0 ≤ a) {pc : Nat} {Ls : Array Slot} {rest : List Value} (hd : decode c.code pc = .ok (.iastore, 1))
    (K : ∀ T' h' L', Stand p l e R s m args below meth c T' L' cells slots → T'.heap = h' → Fr n0 L' → Wr h h' a i (.int x) → Arv Z h' a k .int z (vs.set i (.int x)) dv → ownFin p e below F Q (T'.setTop (mkF m (pc + 1) Ls rest))) :
    ownFin p e below F Q (T.setTop (mkF m pc Ls (.int x :: .int j :: .ref a :: rest))) := by
  obtain ⟨cl, Ar, q1, Sz, Nz, H, G⟩ := A
  obtain ⟨T', h', X', e', W, st⟩ := stI X hx hZ eT Ar (j := j) (x := x) (inb_of Sz hj) (g := mkF m pc Ls (.int x :: .int j :: .ref a :: rest)) rfl rfl hd
  have N' := Fr.snoc X' N ge
  have A' := Arv.set Ar q1 Sz Nz H G rfl W i hi hl
  rw [hi] at W
  exact ownVia st (K T' h' _ X' e' N' W A')
theorem ownLastore {a : Addr} {k : ClassId} {z j : Int32} {x : Int64} {vs : List Value} {dv : Value} {n0 : Nat} (X : Stand p l e R s m args below meth c T locs cells slots) (hx : p.tables.exec = Jvm.exec) (hZ : Z.Warmed39 s.vm) (eT : T.heap = h) (A : Arv Z h a k .long z vs dv) (hj : ¬ j < 0 ∧ j < z) (i : Nat) (hi : j.toNatClampNeg = i) (hl : i < vs.length) (N : Fr n0 locs) (ge : n0 ≤ a) {pc : Nat} {Ls : Array Slot} {rest : List Value} (hd : decode c.code pc = .ok (.lastore, 1))
    (K : ∀ T' h' L', Stand p l e R s m args below meth c T' L' cells slots → T'.heap = h' → Fr n0 L' → Wr h h' a i (.long x) → Arv Z h' a k .long z (vs.set i (.long x)) dv → ownFin p e below F Q (T'.setTop (mkF m (pc + 1) Ls rest))) :
    ownFin p e below F Q (T.setTop (mkF m pc Ls (.long x :: .int j :: .ref a :: rest))) := by
  obtain ⟨cl, Ar, q1, Sz, Nz, H, G⟩ := A
  obtain ⟨T', h', X', e', W, st⟩ := stJ X hx hZ eT Ar (j := j) (x := x) (inb_of Sz hj) (g := mkF m pc Ls (.long x :: .int j :: .ref a :: rest)) rfl rfl hd
  have N' := Fr.snoc X' N ge
  have A' := Arv.set Ar q1 Sz Nz H G rfl W i hi hl
  rw [hi] at W
  exact ownVia st (K T' h' _ X' e' N' W A')
theorem ownNewP {aty : ArrayType} {n : Int32} (X : Stand p l e R s m args below meth c T locs cells slots) (hx : p.tables.exec = Jvm.exec) (hZ : Z.Warmed39 s.vm) (w : (Jvm.Cond.arrayClass (newarray.typeOf aty)).before a0 Z = true) (eT : T.heap = h) (ad : String) (had : "[" ++ (newarray.typeOf aty).toString = ad) (hn : ¬ n < 0) (N : Nat) (hN : n.toNatClampNeg = N) (cap : Nat) (hcap : N ≤ cap) (hb : cap * 8 ≤ 536870912) (hc : cells + 1 ≤ R.cells) (hl : slots + cap ≤ R.slots)
    {pc : Nat} {Ls : Array Slot} {rest : List Value} (hd : decode c.code pc = .ok (.newarray aty, 2))
    (K : ∀ T' h' k a, a = h.size → Stand p l e R s m args below meth c T' locs (cells + 1) (slots + cap) → T'.heap = h' → Ext h h' → Arv Z h' a k (newarray.typeOf aty) n (List.replicate N (defaultValue (newarray.typeOf aty))) (defaultValue (newarray.typeOf aty)) → Exa Z h' a ad → ownFin p e below F Q (T'.setTop (mkF m (pc + 2) Ls (.ref a :: rest)))) :
    ownFin p e below F Q (T.setTop (mkF m pc Ls (.int n :: rest))) := by
  obtain ⟨T', h', k, X', e', E, A, Ex, st⟩ := newPE X hx hZ w eT (g := mkF m pc Ls (.int n :: rest)) rfl hd rfl hn (cap := cap) (by rw [hN]; exact hcap) hb hc hl had
  exact ownVia st (K T' h' k _ rfl X' e' E ((Arv.new A hn).pad (pad_rep [] _ _)) Ex)
theorem ownClone {own : String} {index : Nat} {a : Addr} {k : ClassId} {ty : FieldType} {z : Int32} {vs : List Value} {dv : Value} {ad : String} (X : Stand p l e R s m args below meth c T locs cells slots) (hx : p.tables.exec = Jvm.exec) (hZ : Z.Warmed39 s.vm) (hown : s.vm.findClass own = some m.cls)
    (w1 : (Jvm.Cond.methodLink own index ⟨ad, "clone", "()Ljava/lang/Object;"⟩).before a0 Z = true) (w2 : (Jvm.Cond.sameMethod ad "java/lang/Object" "clone" "()Ljava/lang/Object;").before a0 Z = true) (w3 : (Jvm.Cond.native ⟨"java/lang/Object", "clone", "()Ljava/lang/Object;"⟩).before a0 Z = true)
    (w4 : (Jvm.Cond.instanceMethod ⟨"java/lang/Object", "clone", "()Ljava/lang/Object;"⟩).before a0 Z = true) (w5 : (Jvm.Cond.selects ad ⟨ad, "clone", "()Ljava/lang/Object;"⟩ ⟨"java/lang/Object", "clone", "()Ljava/lang/Object;"⟩).before a0 Z = true) (w6 : (Jvm.Cond.castable ad "java/lang/Cloneable").before a0 Z = true)
    (eT : T.heap = h) (A : Arv Z h a k ty z vs dv) (E : Exa Z h a ad) {pc : Nat} {Ls : Array Slot} {rest : List Value} (hsz : Ls.size = c.maxLocals) (hd : decode c.code pc = .ok (.invokevirtual index, 3)) (hf : 1 ≤ R.frames) (W : Nat) (hW : (rest.map fun v => v.category).sum = W) (hlo : W + 14 ≤ R.locals) (cap : Nat) (hcap : z.toNatClampNeg ≤ cap) (hc : cells + 1 ≤ R.cells) (hsl : slots + cap ≤ R.slots)
    (K : ∀ T' h' b, b = h.size → Stand p l e R s m args below meth c T' locs (cells + 1) (slots + cap) → T'.heap = h' → Ext h h' → Arv Z h' b k ty z vs dv → Exa Z h' b ad → ownFin p e below F Q (T'.setTop (mkF m (pc + 3) Ls (.ref b :: rest)))) :
    ownFin p e below F Q (T.setTop (mkF m pc Ls (.ref a :: rest))) := by
  obtain ⟨T', h', X', e', Ex, A', E', st⟩ := cloneH X hx hZ hown w1 w2 w3 w4 w5 w6 eT A.arh E (g := mkF m pc Ls (.ref a :: rest)) rfl hsz rfl hd hf (W := W) (by show 2 * 0 + _ ≤ _; omega) hlo hcap hc hsl
  exact ownVia st (K T' h' _ rfl X' e' Ex A' E')
theorem ownCallP {own : String} {index : Nat} {y y2 : MethodName} {bytes : ByteArray} {maxL : Nat} {ret : Option FieldType} {rm : Room} {as' : Array Value} {Q' : Option Value → Heap → List Loc → Prop} {C' : String}
    (X : Stand p l e R s m args below meth c T locs cells slots) (hx : p.tables.exec = Jvm.exec) (hZ : Z.Warmed39 s.vm) (hown : s.vm.findClass own = some m.cls)
    (w1 : (Jvm.Cond.methodLink own index y).before a0 Z = true) (w2 : (Jvm.Cond.privateMethod y).before a0 Z = true) (w5 : (Jvm.Cond.selects y2.cls y2 y2).before a0 Z = true) (hc2 : y2.cls = y.cls) (w7 : (Jvm.Cond.instanceMethod y).before a0 Z = true) (w3 : (Jvm.Cond.initialized y.cls).before a0 Z = true) (w4 : (Jvm.Cond.code y bytes maxL ret).before a0 Z = true)
    (hy : y.cls ≠ "java/lang/invoke/MethodHandle" ∧ y.cls ≠ "java/lang/invoke/VarHandle") (eT : T.heap = h) {a : Addr} (E : Exa Z h a C') (hM : ownMet l Z y bytes maxL ret [] rm as' h Q')
    {pc : Nat} {Ls : Array Slot} {st : List Value} (hsz : Ls.size = c.maxLocals) (argsL rest : List Value) (hlen : ∀ sig, parseMethodDescriptor y.desc = some sig → argsL.length = sig.parameters.length)
    (hst : st = argsL.reverse ++ .ref a :: rest) (has : (Value.ref a :: argsL).toArray = as') (W : Nat) (hW : (rest.map fun v => v.category).sum = W) (hd : decode c.code pc = .ok (.invokevirtual index, 3))
    (hfr : rm.frames + 1 ≤ R.frames) (hlo : W + (maxL + 11) + rm.locals ≤ R.locals) (hce : cells + rm.cells ≤ R.cells) (hsl : slots + rm.slots ≤ R.slots)
    (K : ∀ v T' L', Stand p l e R s m args below meth c T' (locs ++ L') (cells + rm.cells) (slots + rm.slots) → Q' v T'.heap L' → ownFin p e below F Q (T'.setTop (mkF m (pc + 3) Ls (v.toList ++ rest)))) :
    ownFin p e below F Q (T.setTop (mkF m pc Ls st)) := by
  have hpriv : s.PrivateAt y := Cond.privateMethod_at (mvP hZ w2 (args := #[]))
  have hsel2 : (Jvm.Cond.selects y2.cls y2 y2).before args s = true := mvT hZ w5
  obtain ⟨c2, r2, m2, q1, q2, q3, q4, kP, hkP, hkPi⟩ := Cond.selects_spec hsel2
  have hf2 := findClass_of_methodNamed q3
  rw [hc2] at hf2
  have hsel : (Jvm.Cond.selects y.cls y y).before args s = true := selects_self_of_private hf2 hkP hkPi hpriv (mvT hZ w7) hy
  obtain ⟨cq, qc1, qc2⟩ := E.cell
  obtain ⟨v, _, ⟨T2, L2, k2, n2⟩, -, X2, ⟨Lc2, hQ2, l2, y2', z2⟩, st2⟩ := X.privateBack hx (y := y) hown (mvT hZ w1) (mvT hZ w7) hsel hpriv (mvT hZ w4) hy (backOf (W := W) hM hZ w4 w3 hfr hlo) (g := mkF m pc Ls st) rfl hsz (Steps.refl _) (a := a) (by rw [eT]; exact qc1) qc2 (argsL := argsL) (rest := rest) hlen hst (by show 2 * 0 + _ ≤ _; omega) hd (fun _ _ => ⟨has, eT, hce, hsl⟩)
  dsimp only [Pt.U, Pt.locs, Pt.cells, Pt.slots] at X2 l2 y2' z2 st2 hQ2
  subst l2 y2' z2
  exact ownVia (fun _ k => st2.trans k) (K v T2 Lc2 X2 hQ2)
theorem ownCast {own K' : String} {index : Nat} {a : Addr} (X : Stand p l e R s m args below meth c T locs cells slots) (hx : p.tables.exec = Jvm.exec) (hZ : Z.Warmed39 s.vm) (hown : s.vm.findClass own = some m.cls) (w : (Jvm.Cond.classLink own index K').before a0 Z = true) (eT : T.heap = h) (FI : Ins Z h a K' true) {pc : Nat} {Ls : Array Slot} {rest : List Value} (hd : decode c.code pc = .ok (.checkcast index, 3))
    (K : ∀ T', Stand p l e R s m args below meth c T' locs cells slots → T'.heap = h → ownFin p e below F Q (T'.setTop (mkF m (pc + 3) Ls (.ref a :: rest)))) : ownFin p e below F Q (T.setTop (mkF m pc Ls (.ref a :: rest))) := by
  obtain ⟨T', X', e', st⟩ := castY X hx hZ hown w eT FI (g := mkF m pc Ls (.ref a :: rest)) rfl rfl hd
  exact ownVia st (K T' X' e')
theorem own_clamp {j : Int32} {n : Nat} (h : j.toInt = (n : Int)) : j.toNatClampNeg = n := by
  show j.toInt.toNat = n
  rw [h]; rfl
theorem own_nneg {j : Int32} {n : Nat} (h : j.toInt = (n : Int)) : ¬ j < 0 := fun q => by
  have := Int32.lt_iff_toInt_lt.mp q
  have k0 : (0 : Int32).toInt = 0 := by decide
  omega
theorem ownCopy {own : String} {index : Nat} {a b : Addr} {k k' : ClassId} {ty : FieldType} {z z' sp dp nn : Int32} {vs vd : List Value} {dv dd : Value} {n0 : Nat} (X : Stand p l e R s m args below meth c T locs cells slots) (hx : p.tables.exec = Jvm.exec) (hZ : Z.Warmed39 s.vm) (hown : s.vm.findClass own = some m.cls)
    (w1 : (Jvm.Cond.methodLink own index Jvm.Stand.acN).before a0 Z = true) (w2 : (Jvm.Cond.native Jvm.Stand.acN).before a0 Z = true) (w3 : (Jvm.Cond.static Jvm.Stand.acN).before a0 Z = true) (w4 : (Jvm.Cond.initialized "java/lang/System").before a0 Z = true) (eT : T.heap = h)
    (A : Arv Z h a k ty z vs dv) (B : Arv Z h b k' ty z' vd dd) (hty : refKind ty = false) (i j n lz lz' : Nat) (hi : sp.toInt = (i : Int)) (hj : dp.toInt = (j : Int)) (hn : nn.toInt = (n : Int)) (hz : z.toInt = (lz : Int)) (hz' : z'.toInt = (lz' : Int)) (h4 : i + n ≤ lz) (h5 : j + n ≤ lz') (hl : j + n ≤ vd.length) (N : Fr n0 locs) (ge : n0 ≤ b)
    {pc : Nat} {Ls : Array Slot} {rest : List Value} (hsz : Ls.size = c.maxLocals) (hd : decode c.code pc = .ok (.invokestatic index, 3)) (hf : 1 ≤ R.frames) (W : Nat) (hW : (rest.map fun v => v.category).sum = W) (hlo : W + (nativeFrameWords "java/lang/System" "arraycopy" 5 + 11) ≤ R.locals)
    (K : ∀ T' h' L', Stand p l e R s m args below meth c T' L' cells slots → T'.heap = h' → Fr n0 L' → Keep h h' [b] → Arv Z h' b k' ty z' (vd.take j ++ ((List.range n).map fun x => vs.getD (i + x) dv) ++ vd.drop (j + n)) dd → ownFin p e below F Q (T'.setTop (mkF m (pc + 3) Ls rest))) :
    ownFin p e below F Q (T.setTop (mkF m pc Ls (.int nn :: .int dp :: .ref b :: .int sp :: .ref a :: rest))) := by
  have e1 := own_clamp hi
  have e2 := own_clamp hj
  have e3 := own_clamp hn
  have e4 := own_clamp hz
  have e5 := own_clamp hz'
  obtain ⟨T', h', L', X', e', N', K', B', st⟩ := cpA X hx hZ hown w1 w2 w3 w4 eT A B (Or.inl ⟨rfl, hty⟩) (own_nneg hi) (own_nneg hj) (own_nneg hn) (by omega) (by omega) rfl (by omega) N ge (g := mkF m pc Ls (.int nn :: .int dp :: .ref b :: .int sp :: .ref a :: rest)) rfl hsz rfl hd hf (W := W) (by show 2 * 0 + _ ≤ _; omega) hlo
  rw [e1, e2, e3] at B'
  exact ownVia st (K T' h' L' X' e' N' K' B')
theorem own_lti {a b : Int32} {x y : Int} (ha : a.toInt = x) (hb : b.toInt = y) : a < b ↔ x < y := by rw [Int32.lt_iff_toInt_lt, ha, hb]
theorem own_sub {a b : Int32} {i j : Nat} (ha : a.toInt = (i : Int)) (hb : b.toInt = (j : Int)) (h : j ≤ i) : (a - b).toInt = ((i - j : Nat) : Int) := by
  have h1 := c_isub a b
  have h2 := rng32 (a - b)
  have h3 := rng32 a
  have h4 := rng32 b
  omega
theorem own_add {a b : Int32} {i j : Nat} (ha : a.toInt = (i : Int)) (hb : b.toInt = (j : Int)) (h : i + j < 2147483648) : (a + b).toInt = ((i + j : Nat) : Int) := by
  have h1 := c_iadd a b
  have h2 := rng32 (a + b)
  omega
theorem own_nlt {a b : Int32} {i j : Int} (ha : a.toInt = i) (hb : b.toInt = j) (h : j ≤ i) : ¬ a < b := fun q => by
  have := (own_lti ha hb).mp q
  omega
theorem own_enum {args : Array Value} {C n d K : String} (hx : (Jvm.Cond.exactly (.static C n d) K).value args s none s [] = some true) (wi : (Jvm.Cond.initialized C).before args s = true) (wl : (Jvm.Cond.laysStatic C n d).before args s = true) :
    ∃ a, (Term.static C n d).eval args s none [] s = some (.ref a) ∧ Sta s s.heap C n d (.ref a) ∧ Exa s s.heap a K := by
  obtain ⟨a, ev⟩ := exa_v hx
  exact ⟨a, ev, Sta.start ev (Or.inr ⟨wi, wl⟩), Exa.start ev hx⟩
theorem own_eqv {args : Array Value} {t : Term} {k : Int32} (hf : (Jvm.Cond.eq t (.int k)).value args s none s [] = some true) : t.eval args s none [] s = some (.int k) := by
  cases hv : t.eval args s none [] s with
  | none => simp [Cond.value, hv] at hf
  | some v =>
    cases v <;> simp [Cond.value, hv, Term.eval] at hf
    rw [hf]
theorem own_efld {args : Array Value} {t : Term} {a : Addr} {C n d : String} {k : Int32} (ev : t.eval args s none [] s = some (.ref a)) (hf : (Jvm.Cond.eq (.field t C n d) (.int k)).value args s none s [] = some true) : Fld s s.heap a C n d (.int k) :=
  Fld.start ((fld_at ev).symm.trans (own_eqv hf))
theorem own_iff_f {A B P : Prop} (hA : ¬ A) (h : P ↔ A ∨ B) : P ↔ B := by simpa [hA] using h
theorem own_iff_t {A B P : Prop} (hA : A) (h : P ↔ A ∨ B) : P := h.mpr (Or.inl hA)
theorem own_ref_ne {a b : Addr} (h : a ≠ b) : ¬ (Value.ref a) = .ref b := fun q => h (by cases q; rfl)
theorem own_sz {n0 : Nat} {h' : Heap} (q : n0 ≤ h.size) (E : Ext h h') : n0 ≤ h'.size := Nat.le_trans q E.1
theorem own_szW {n0 : Nat} {h' : Heap} {a : Addr} {sl : Nat} {v : Value} (q : n0 ≤ h.size) (W : Wr h h' a sl v) : n0 ≤ h'.size := by rw [W.size]; exact q
theorem own_eqi {a b : Int32} {x y : Int} (ha : a.toInt = x) (hb : b.toInt = y) : a = b ↔ x = y := by rw [← Int32.toInt_inj, ha, hb]
theorem own_ltl {a b : Int64} {x y : Int} (ha : a.toInt = x) (hb : b.toInt = y) : a < b ↔ x < y := by rw [Int64.lt_iff_toInt_lt, ha, hb]
theorem own_eql {a b : Int64} {x y : Int} (ha : a.toInt = x) (hb : b.toInt = y) : a = b ↔ x = y := by rw [← Int64.toInt_inj, ha, hb]
theorem own_getD_map {α β : Type} (f : α → β) (d : α) (xs : List α) (n : Nat) : (xs.map f).getD n (f d) = f (xs.getD n d) := by
  simp only [List.getD_eq_getElem?_getD, List.getElem?_map]
  cases xs[n]? <;> rfl
theorem own_idx {j z : Int32} {zi : Int} (hz : z.toInt = zi) (h1 : 0 ≤ j.toInt) (h2 : j.toInt < zi) : ¬ j < 0 ∧ j < z := ⟨fun q => by have := (own_lti rfl (by decide : (0 : Int32).toInt = 0)).mp q; omega, Int32.lt_iff_toInt_lt.mpr (by rw [hz]; exact h2)⟩
end Own
section OwnW
variable {p : Program} {l : Launch} {e : Env} {R : Room} {s : State} {m : MethodId} {args : Array Value} {below : List Frame} {meth : Method} {c : Code} {T : State} {locs : List Loc} {cells slots : Nat} {Z : State} {a0 : Array Value} {h : Heap} {Q : Option Value → Heap → List Loc → Prop} {C S : Nat} {u u' : State} {F : Outcome → State → List Loc → Prop} {vm0 : Vm}
def ownFW (s : State) (C S : Nat) : Outcome → State → List Loc → Prop := fun o t L => ReturnedEndW s o t L C S
theorem ownRetW (X : Stand p l e R (s.setVm vm0) m args below meth c T locs cells slots) (hlk : meth.locks = false) {k0 : Nat} (hS : s.Since vm0 k0) (hk : k0 ≤ T.heap.size) {v : Option Value} (hv : meth.sig.returnType = none → v = none)
    (f : ∀ fs, (∀ (f : JFrame) (acts : List Action), f.method = m → f.locked = none → f.entered = [] → (doReturn e (T.setTop f) acts v).1 = T.setFrames fs) → Steps p.tables e below u (T.setFrames fs))
    (hC : cells ≤ C) (hS' : slots ≤ S) (hQ : Q v T.heap locs) : ownFin p e below (ownFW s C S) Q u := by
  obtain ⟨fs, hr, hrun, hended, hE⟩ := X.leaveW hS hk (v := v) hv hlk
  exact ⟨_, _, f fs hr, hrun, hended, v, _, rfl, hQ, hE.1, hE.2.1, hE.2.2.1, hE.2.2.2.mono hC hS'⟩
theorem ownRetZW (X : Stand p l e R (s.setVm vm0) m args below meth c T locs cells slots) (hx : p.tables.exec = Jvm.exec) (hlk : meth.locks = false) {k0 : Nat} (hS : s.Since vm0 k0) (hk : k0 ≤ T.heap.size) (hret : meth.sig.returnType = some .boolean) {pc : Nat} {Ls : Array Slot} {z : Int32} {rest : List Value} (hd : decode c.code pc = .ok (.ireturn, 1)) (hC : cells ≤ C) (hS' : slots ≤ S) (hz : z = 0 ∨ z = 1) (hQ : Q (some (.int z)) T.heap locs) : ownFin p e below (ownFW s C S) Q (T.setTop (mkF m pc Ls (.int z :: rest))) :=
  ownRetW X hlk hS hk (v := some (.int z)) (fun q => by rw [hret] at q; cases q) (fun fs hr => retOut X hx hret (by rcases hz with rfl | rfl <;> rfl) (Or.inl ⟨rfl, Or.inr (Or.inl rfl), z, rfl⟩) hd hr) hC hS' hQ
theorem ownRetVW (X : Stand p l e R (s.setVm vm0) m args below meth c T locs cells slots) (hx : p.tables.exec = Jvm.exec) (hlk : meth.locks = false) {k0 : Nat} (hS : s.Since vm0 k0) (hk : k0 ≤ T.heap.size) (hret : meth.sig.returnType = none) {pc : Nat} {Ls : Array Slot} (hd : decode c.code pc = .ok (.return_, 1)) (hC : cells ≤ C) (hS' : slots ≤ S) (hQ : Q none T.heap locs) : ownFin p e below (ownFW s C S) Q (T.setTop (mkF m pc Ls [])) :=
  ownRetW X hlk hS hk (v := none) (fun _ => rfl) (fun fs hr => X.returnOut hx hret hd hr) hC hS' hQ
abbrev ownMetW (l : Launch) (Z : State) (y : MethodName) (bytes : ByteArray) (maxL : Nat) (ret : Option FieldType) (ws : List Jvm.Cond) (rm : Room) (as' : Array Value) (h0 : Heap) (Q : Option Value → Heap → List Loc → Prop) : Prop :=
  MetFree l y (head1 (Jvm.Cond.code y bytes maxL ret :: ws) rm) (fun a U => a = as' ∧ Z.Warmed39 U.vm ∧ U.heap = h0) (fun _ _ _ _ _ => True) (fun _ U o U' => ∃ v L, o = .returned v ∧ Q v U'.heap L ∧ ReturnedEndW U o U' L rm.cells rm.slots)
theorem ownBodyW {y : MethodName} {bytes : ByteArray} {maxL : Nat} {ret : Option FieldType} {ws : List Jvm.Cond} {rm : Room} {as' : Array Value} {h0 : Heap} (hpl : plainFor y = true)
    (H : ∀ (p : Program) (e : Env) (s : State) (m : MethodId) (below : List Frame) (meth : Method) (c : Code) (T : State), p.tables.exec = Jvm.exec → c.code = bytes → c.maxLocals = maxL → meth.sig.returnType = ret → meth.locks = false → Z.Warmed39 s.vm → s.vm.findClass y.cls = some m.cls → meth.name = y.name →
      Stand p l e rm s m as' below meth c T [] 0 0 → T.heap = h0 → ownFin p e below (ownFW s rm.cells rm.slots) Q (T.setTop (entryFrame m as' maxL))) : ownMetW l Z y bytes maxL ret ws rm as' h0 Q := by
  refine MetFree.of_bodySF hpl hisR ?_
  intro p e s m args below meth c s₁ Bd hml0 hP hK
  obtain ⟨rfl, hZ, hh⟩ := hP
  exact H p e s m below meth c s₁ Bd.exec Bd.bytes hml0 Bd.returns Bd.notSynchronized hZ (findClass_of_methodNamed Bd.named) (name_of_methodNamed Bd.named Bd.method).1 (Stand.of_body Bd) (by rw [← hh, Bd.state]; rfl)
theorem ownLdc {own text : String} {index k0 : Nat} (X : Stand p l e R (s.setVm vm0) m args below meth c T locs cells slots) (hx : p.tables.exec = Jvm.exec) (hZ : Z.Warmed39 vm0) (hown : vm0.findClass own = some m.cls) (w : (Jvm.Cond.stringLink own index text).before a0 Z = true) (wS : ∀ a ∈ Bundle.stringAtoms, a.before a0 Z = true)
    (eT : T.heap = h) (hS : s.Since vm0 k0) (hk : k0 ≤ h.size) {n : Nat} (hn : 4 * text.toList.length ≤ n) (hbig : n ≤ 536870912) (hc : cells + 2 ≤ R.cells) (hl : slots + (n + 4) ≤ R.slots) {pc : Nat} {Ls : Array Slot} {st : List Value} (hd : decode c.code pc = .ok (.ldc index, 2))
    (K : ∀ a T' h', Stand p l e R (s.setVm T'.vm) m args below meth c T' locs (cells + 2) (slots + (n + 4)) → T'.heap = h' → Ext h h' → Z.Warmed39 (s.setVm T'.vm).vm → (s.setVm T'.vm).vm.findClass own = some m.cls → s.Since T'.vm h'.size → h'.size ≤ h'.size → ownFin p e below F Q (T'.setTop (mkF m (pc + 2) Ls (.ref a :: st)))) :
    ownFin p e below F Q (T.setTop (mkF m pc Ls st)) := by
  subst eT
  obtain ⟨a, T', X', hS', -, hb, -, stp⟩ := X.ldcStringCold hx (own := own) hown (mvS hZ w) (fun d hd => by
    have q := wS d hd
    simp only [Bundle.stringAtoms, List.mem_cons, List.not_mem_nil, or_false] at hd
    rcases hd with rfl | rfl | rfl | rfl | rfl | rfl | rfl
    · exact mv (s := s.setVm vm0) hZ q
    · exact mv (s := s.setVm vm0) hZ q
    · exact mvA (s := s.setVm vm0) hZ q
    · exact mv (s := s.setVm vm0) hZ q
    · exact mv (s := s.setVm vm0) hZ q
    · exact mv (s := s.setVm vm0) hZ q
    · exact mv (s := s.setVm vm0) hZ q) (g := mkF m pc Ls st) rfl hd hn hbig hc hl
  have E := ext_of hb
  exact ownVia stp (K a T' _ X' rfl E (State.Warmed39.trans (t := s.setVm vm0) hZ hS'.1) (by rw [show (s.setVm T'.vm).vm = T'.vm from rfl, hS'.1.alike.findClass]; exact hown) (hS.trans hS' (Nat.le_trans hk E.1)) (Nat.le_refl _))
theorem ownCallNW {own : String} {index : Nat} {y : MethodName} {bytes : ByteArray} {maxL : Nat} {rm : Room} {as' : Array Value} {Q' : Option Value → Heap → List Loc → Prop}
    (X : Stand p l e R s m args below meth c T locs cells slots) (hx : p.tables.exec = Jvm.exec) (hZ : Z.Warmed39 s.vm) (hown : s.vm.findClass own = some m.cls) (hy1 : y.name = "<init>")
    (w1 : (Jvm.Cond.methodLink own index y).before a0 Z = true) (w2 : (Jvm.Cond.instanceMethod y).before a0 Z = true) (w3 : (Jvm.Cond.initialized y.cls).before a0 Z = true) (w4 : (Jvm.Cond.code y bytes maxL none).before a0 Z = true)
    (hy : y.cls ≠ "java/lang/invoke/MethodHandle" ∧ y.cls ≠ "java/lang/invoke/VarHandle") (eT : T.heap = h) (hM : ownMetW l Z y bytes maxL none [] rm as' h Q')
    {pc : Nat} {Ls : Array Slot} {st : List Value} (hsz : Ls.size = c.maxLocals) (a : Addr) (argsL rest : List Value) (hlen : ∀ sig, parseMethodDescriptor y.desc = some sig → argsL.length = sig.parameters.length)
    (hst : st = argsL.reverse ++ .ref a :: rest) (has : (Value.ref a :: argsL).toArray = as') (W : Nat) (hW : (rest.map fun v => v.category).sum = W) (hd : decode c.code pc = .ok (.invokespecial index, 3))
    (hfr : rm.frames + 1 ≤ R.frames) (hlo : W + (maxL + 11) + rm.locals ≤ R.locals) (hce : cells + rm.cells ≤ R.cells) (hsl : slots + rm.slots ≤ R.slots)
    (K : ∀ v T' L', Stand p l e R (s.setVm T'.vm) m args below meth c T' (locs ++ L') (cells + rm.cells) (slots + rm.slots) → Q' v T'.heap L' → Z.Warmed39 (s.setVm T'.vm).vm → (s.setVm T'.vm).vm.findClass own = some m.cls → s.Since T'.vm T'.heap.size → T'.heap.size ≤ T'.heap.size → ownFin p e below F Q (T'.setTop (mkF m (pc + 3) Ls (v.toList ++ rest)))) :
    ownFin p e below F Q (T.setTop (mkF m pc Ls st)) := by
  obtain ⟨v, _, ⟨T2, L2, k2, n2⟩, -, X2, hSi, -, ⟨Lc2, hQ2, l2, y2, z2⟩, st2⟩ := X.specialBackS hx (y := y) hy1 hown (mvT hZ w1) (mvT hZ w2) (mvT hZ w4) hy (backOfS (W := W) hM hZ w4 w3 hfr hlo) (g := mkF m pc Ls st) rfl hsz (Steps.refl _) (a := a) (argsL := argsL) (rest := rest) hlen hst (by show 2 * 0 + _ ≤ _; omega) hd (fun _ _ => ⟨has, eT, hce, hsl⟩)
  dsimp only [Pt.U, Pt.locs, Pt.cells, Pt.slots] at X2 l2 y2 z2 st2 hQ2 hSi
  subst l2 y2 z2
  exact ownVia (fun _ k => st2.trans k) (K v T2 Lc2 X2 hQ2 (State.Warmed39.trans hZ hSi.1) (by rw [show (s.setVm T2.vm).vm = T2.vm from rfl, hSi.1.alike.findClass]; exact hown) hSi (Nat.le_refl _))
theorem ownCallU {own C' owner : String} {index : Nat} {y : MethodName} {bytes : ByteArray} {maxL : Nat} {ret : Option FieldType} {rm : Room} {as' : Array Value} {Q' : Option Value → Heap → List Loc → Prop} {z : MethodName}
    (X : Stand p l e R s m args below meth c T locs cells slots) (hx : p.tables.exec = Jvm.exec) (hZ : Z.Warmed39 s.vm) (hown : s.vm.findClass own = some m.cls)
    (w1 : (Jvm.Cond.methodLink own index y).before a0 Z = true) (w2 : (Jvm.Cond.sameMethod y.cls owner y.name y.desc).before a0 Z = true) (w5 : (Jvm.Cond.declares ⟨owner, y.name, y.desc⟩).before a0 Z = true) (hy : owner ≠ "java/lang/invoke/MethodHandle" ∧ owner ≠ "java/lang/invoke/VarHandle") (w6 : (Jvm.Cond.selects C' y z).before a0 Z = true) (w7 : (Jvm.Cond.instanceMethod z).before a0 Z = true) (w3 : (Jvm.Cond.initialized z.cls).before a0 Z = true) (w4 : (Jvm.Cond.code z bytes maxL ret).before a0 Z = true)
    (eT : T.heap = h) {a : Addr} (E : Exa Z h a C') (hM : ownMet l Z z bytes maxL ret [] rm as' h Q')
    {pc : Nat} {Ls : Array Slot} {st : List Value} (hsz : Ls.size = c.maxLocals) (argsL rest : List Value) (hlen : ∀ sig, parseMethodDescriptor y.desc = some sig → argsL.length = sig.parameters.length)
    (hst : st = argsL.reverse ++ .ref a :: rest) (has : (Value.ref a :: argsL).toArray = as') (W : Nat) (hW : (rest.map fun v => v.category).sum = W) (hd : decode c.code pc = .ok (.invokevirtual index, 3))
    (hfr : rm.frames + 1 ≤ R.frames) (hlo : W + (maxL + 11) + rm.locals ≤ R.locals) (hce : cells + rm.cells ≤ R.cells) (hsl : slots + rm.slots ≤ R.slots)
    (K : ∀ v T' L', Stand p l e R s m args below meth c T' (locs ++ L') (cells + rm.cells) (slots + rm.slots) → Q' v T'.heap L' → ownFin p e below F Q (T'.setTop (mkF m (pc + 3) Ls (v.toList ++ rest)))) :
    ownFin p e below F Q (T.setTop (mkF m pc Ls st)) := by
  obtain ⟨cq, kq, qa, qb, qc⟩ := isOf hZ eT E
  obtain ⟨v, _, ⟨T2, L2, k2, n2⟩, -, X2, ⟨Lc2, hQ2, l2, y2, z2⟩, st2⟩ := X.virtualBackUp hx (x := y) (y := z) (owner := owner) hown (mvT hZ w1) (mvT hZ w2) (mvT hZ w5) hy (mvT hZ w6) (mvT hZ w7) (backOf (W := W) hM hZ w4 w3 hfr hlo) qa qc (g := mkF m pc Ls st) rfl hsz (Steps.refl _) (argsL := argsL) (rest := rest) hlen hst (by show 2 * 0 + _ ≤ _; omega) hd (fun _ _ => ⟨has, eT, hce, hsl⟩)
  dsimp only [Pt.U, Pt.locs, Pt.cells, Pt.slots] at X2 l2 y2 z2 st2 hQ2
  subst l2 y2 z2
  exact ownVia (fun _ k => st2.trans k) (K v T2 Lc2 X2 hQ2)
end OwnW
theorem own_satoms {Z : State} {a0 : Array Value} (hw : ∀ d ∈ tables_1, d.before a0 Z = true) : ∀ a ∈ Bundle.stringAtoms, a.before a0 Z = true := by
  intro d hd
  simp only [Bundle.stringAtoms, List.mem_cons, List.not_mem_nil, or_false] at hd
  rcases hd with rfl | rfl | rfl | rfl | rfl | rfl | rfl
  · exact (hw _ (List.mem_of_getElem? (i := 29) rfl))
  · exact (hw _ (List.mem_of_getElem? (i := 30) rfl))
  · exact (hw _ (List.mem_of_getElem? (i := 31) rfl))
  · exact (hw _ (List.mem_of_getElem? (i := 32) rfl))
  · exact (hw _ (List.mem_of_getElem? (i := 33) rfl))
  · exact (hw _ (List.mem_of_getElem? (i := 34) rfl))
  · exact (hw _ (List.mem_of_getElem? (i := 35) rfl))

def own_E (Z : State) (h : Heap) (C d n : String) (k : Int32) : Prop := ∃ a, Sta Z h C n d (.ref a) ∧ Exa Z h a C ∧ Fld Z h a "java/lang/Enum" "ordinal" "I" (.int k)
theorem own_E_ext {Z : State} {h h' : Heap} {C d n : String} {k : Int32} (E : Ext h h') (H : own_E Z h C d n k) : own_E Z h' C d n k := by
  obtain ⟨a, h1, h2, h3⟩ := H
  exact ⟨a, h1.ext E, h2.ext E, h3.ext E⟩
theorem own_r13 (q : Int32) : 0 ≤ ((q &&& (2147483647 : Int32)) % (13 : Int32)).toInt ∧ ((q &&& (2147483647 : Int32)) % (13 : Int32)).toInt ≤ 12 := by
  have a := c_mask q 2147483647 31 (by decide) (by decide)
  have b := (c_irem (q &&& (2147483647 : Int32)) 13 13 (by decide)).1 (by omega)
  omega
theorem own_s4 (q : Int32) : 0 ≤ (q &&& (3 : Int32)).toInt ∧ (q &&& (3 : Int32)).toInt ≤ 3 := by
  have a := c_mask q 3 2 (by decide) (by decide)
  omega
theorem d1_0 : decode method_2_code 0 = .ok (.iload_n 0, 1) := by decide +kernel
theorem d1_1 : decode method_2_code 1 = .ok (.ifCond .ne 7, 3) := by decide +kernel
theorem d1_4 : decode method_2_code 4 = .ok (.getstatic 7, 3) := by decide +kernel
theorem d1_7 : decode method_2_code 7 = .ok (.areturn, 1) := by decide +kernel
theorem d1_8 : decode method_2_code 8 = .ok (.iload_n 0, 1) := by decide +kernel
theorem d1_9 : decode method_2_code 9 = .ok (.iconst 1, 1) := by decide +kernel
theorem d1_10 : decode method_2_code 10 = .ok (.if_icmp .ne 7, 3) := by decide +kernel
theorem d1_13 : decode method_2_code 13 = .ok (.getstatic 13, 3) := by decide +kernel
theorem d1_16 : decode method_2_code 16 = .ok (.areturn, 1) := by decide +kernel
theorem d1_17 : decode method_2_code 17 = .ok (.iload_n 0, 1) := by decide +kernel
theorem d1_18 : decode method_2_code 18 = .ok (.iconst 2, 1) := by decide +kernel
theorem d1_19 : decode method_2_code 19 = .ok (.if_icmp .ne 7, 3) := by decide +kernel
theorem d1_22 : decode method_2_code 22 = .ok (.getstatic 16, 3) := by decide +kernel
theorem d1_25 : decode method_2_code 25 = .ok (.areturn, 1) := by decide +kernel
theorem d1_26 : decode method_2_code 26 = .ok (.iload_n 0, 1) := by decide +kernel
theorem d1_27 : decode method_2_code 27 = .ok (.iconst 3, 1) := by decide +kernel
theorem d1_28 : decode method_2_code 28 = .ok (.if_icmp .ne 7, 3) := by decide +kernel
theorem d1_31 : decode method_2_code 31 = .ok (.getstatic 19, 3) := by decide +kernel
theorem d1_34 : decode method_2_code 34 = .ok (.areturn, 1) := by decide +kernel
theorem d1_35 : decode method_2_code 35 = .ok (.iload_n 0, 1) := by decide +kernel
theorem d1_36 : decode method_2_code 36 = .ok (.iconst 4, 1) := by decide +kernel
theorem d1_37 : decode method_2_code 37 = .ok (.if_icmp .ne 7, 3) := by decide +kernel
theorem d1_40 : decode method_2_code 40 = .ok (.getstatic 22, 3) := by decide +kernel
theorem d1_43 : decode method_2_code 43 = .ok (.areturn, 1) := by decide +kernel
theorem d1_44 : decode method_2_code 44 = .ok (.iload_n 0, 1) := by decide +kernel
theorem d1_45 : decode method_2_code 45 = .ok (.iconst 5, 1) := by decide +kernel
theorem d1_46 : decode method_2_code 46 = .ok (.if_icmp .ne 7, 3) := by decide +kernel
theorem d1_49 : decode method_2_code 49 = .ok (.getstatic 25, 3) := by decide +kernel
theorem d1_52 : decode method_2_code 52 = .ok (.areturn, 1) := by decide +kernel
theorem d1_53 : decode method_2_code 53 = .ok (.iload_n 0, 1) := by decide +kernel
theorem d1_54 : decode method_2_code 54 = .ok (.bipush 6, 2) := by decide +kernel
theorem d1_56 : decode method_2_code 56 = .ok (.if_icmp .ne 7, 3) := by decide +kernel
theorem d1_59 : decode method_2_code 59 = .ok (.getstatic 28, 3) := by decide +kernel
theorem d1_62 : decode method_2_code 62 = .ok (.areturn, 1) := by decide +kernel
theorem d1_63 : decode method_2_code 63 = .ok (.iload_n 0, 1) := by decide +kernel
theorem d1_64 : decode method_2_code 64 = .ok (.bipush 7, 2) := by decide +kernel
theorem d1_66 : decode method_2_code 66 = .ok (.if_icmp .ne 7, 3) := by decide +kernel
theorem d1_69 : decode method_2_code 69 = .ok (.getstatic 31, 3) := by decide +kernel
theorem d1_72 : decode method_2_code 72 = .ok (.areturn, 1) := by decide +kernel
theorem d1_73 : decode method_2_code 73 = .ok (.iload_n 0, 1) := by decide +kernel
theorem d1_74 : decode method_2_code 74 = .ok (.bipush 8, 2) := by decide +kernel
theorem d1_76 : decode method_2_code 76 = .ok (.if_icmp .ne 7, 3) := by decide +kernel
theorem d1_79 : decode method_2_code 79 = .ok (.getstatic 34, 3) := by decide +kernel
theorem d1_82 : decode method_2_code 82 = .ok (.areturn, 1) := by decide +kernel
theorem d1_83 : decode method_2_code 83 = .ok (.iload_n 0, 1) := by decide +kernel
theorem d1_84 : decode method_2_code 84 = .ok (.bipush 9, 2) := by decide +kernel
theorem d1_86 : decode method_2_code 86 = .ok (.if_icmp .ne 7, 3) := by decide +kernel
theorem d1_89 : decode method_2_code 89 = .ok (.getstatic 37, 3) := by decide +kernel
theorem d1_92 : decode method_2_code 92 = .ok (.areturn, 1) := by decide +kernel
theorem d1_93 : decode method_2_code 93 = .ok (.iload_n 0, 1) := by decide +kernel
theorem d1_94 : decode method_2_code 94 = .ok (.bipush 10, 2) := by decide +kernel
theorem d1_96 : decode method_2_code 96 = .ok (.if_icmp .ne 7, 3) := by decide +kernel
theorem d1_99 : decode method_2_code 99 = .ok (.getstatic 40, 3) := by decide +kernel
theorem d1_102 : decode method_2_code 102 = .ok (.areturn, 1) := by decide +kernel
theorem d1_103 : decode method_2_code 103 = .ok (.iload_n 0, 1) := by decide +kernel
theorem d1_104 : decode method_2_code 104 = .ok (.bipush 11, 2) := by decide +kernel
theorem d1_106 : decode method_2_code 106 = .ok (.if_icmp .ne 7, 3) := by decide +kernel
theorem d1_109 : decode method_2_code 109 = .ok (.getstatic 43, 3) := by decide +kernel
theorem d1_112 : decode method_2_code 112 = .ok (.areturn, 1) := by decide +kernel
theorem d1_113 : decode method_2_code 113 = .ok (.getstatic 46, 3) := by decide +kernel
theorem d1_116 : decode method_2_code 116 = .ok (.areturn, 1) := by decide +kernel
theorem own_pn0 : plainName "com/example/oubliette/oubliette/engine/CardPlacePinLaw" = true := by first | (simp [plainName, overriddenIn]; done) | decide +kernel
theorem own_ef1 (m : MethodId) (p1 : Int32) : entryFrame m #[(.int p1)] 1 = mkF m 0 #[.val (.int p1)] [] := by first | (simp [entryFrame, mkF, argsToLocals, Value.category]; done) | rfl
def Q_own_rank (Z : State) (p1 : Int32) (h0 : Heap) (n0 : Nat)  : Option Value → Heap → List Loc → Prop := fun v h L => ∃ r, v = some (.ref r) ∧ Fr n0 L ∧ h = h0 ∧ Exa Z h0 r "com/example/oubliette/oubliette/engine/Rank" ∧ Fld Z h0 r "java/lang/Enum" "ordinal" "I" (.int p1)
set_option maxRecDepth 65536 in
set_option maxHeartbeats 40000000 in
theorem own_rank (l : Launch) (Z : State) (a0 : Array Value) (hw : ∀ d ∈ tables_1, d.before a0 Z = true)  (p1 : Int32) (h0 : Heap) (n0 : Nat)  (Z0 : n0 ≤ h0.size) (k0 : own_E Z h0 "com/example/oubliette/oubliette/engine/Rank" "Lcom/example/oubliette/oubliette/engine/Rank;" "TWO" (0 : Int32)) (k1 : own_E Z h0 "com/example/oubliette/oubliette/engine/Rank" "Lcom/example/oubliette/oubliette/engine/Rank;" "THREE" (1 : Int32)) (k2 : own_E Z h0 "com/example/oubliette/oubliette/engine/Rank" "Lcom/example/oubliette/oubliette/engine/Rank;" "FOUR" (2 : Int32)) (k3 : own_E Z h0 "com/example/oubliette/oubliette/engine/Rank" "Lcom/example/oubliette/oubliette/engine/Rank;" "FIVE" (3 : Int32)) (k4 : own_E Z h0 "com/example/oubliette/oubliette/engine/Rank" "Lcom/example/oubliette/oubliette/engine/Rank;" "SIX" (4 : Int32)) (k5 : own_E Z h0 "com/example/oubliette/oubliette/engine/Rank" "Lcom/example/oubliette/oubliette/engine/Rank;" "SEVEN" (5 : Int32)) (k6 : own_E Z h0 "com/example/oubliette/oubliette/engine/Rank" "Lcom/example/oubliette/oubliette/engine/Rank;" "EIGHT" (6 : Int32)) (k7 : own_E Z h0 "com/example/oubliette/oubliette/engine/Rank" "Lcom/example/oubliette/oubliette/engine/Rank;" "NINE" (7 : Int32)) (k8 : own_E Z h0 "com/example/oubliette/oubliette/engine/Rank" "Lcom/example/oubliette/oubliette/engine/Rank;" "TEN" (8 : Int32)) (k9 : own_E Z h0 "com/example/oubliette/oubliette/engine/Rank" "Lcom/example/oubliette/oubliette/engine/Rank;" "JACK" (9 : Int32)) (k10 : own_E Z h0 "com/example/oubliette/oubliette/engine/Rank" "Lcom/example/oubliette/oubliette/engine/Rank;" "QUEEN" (10 : Int32)) (k11 : own_E Z h0 "com/example/oubliette/oubliette/engine/Rank" "Lcom/example/oubliette/oubliette/engine/Rank;" "KING" (11 : Int32)) (k12 : own_E Z h0 "com/example/oubliette/oubliette/engine/Rank" "Lcom/example/oubliette/oubliette/engine/Rank;" "ACE" (12 : Int32)) (hp : 0 ≤ p1.toInt ∧ p1.toInt ≤ 12) :
    ownMet l Z (⟨"com/example/oubliette/oubliette/engine/CardPlacePinLaw", "rankOf", "(I)Lcom/example/oubliette/oubliette/engine/Rank;"⟩ : MethodName) method_2_code 1 (some (.object "com/example/oubliette/oubliette/engine/Rank")) [] ({ frames := 0, cells := 0, slots := 0, locals := 0 } : Room) #[(.int p1)] h0 (Q_own_rank Z p1 h0 n0 ) := by
  refine ownBody (plainFor_of_name own_pn0) ?_
  intro p e s m below meth c T0 hx hby hml hret hlk hZ hown hnm X0 e0
  have N0 : Fr n0 [] := Fr.nil n0
  refine ownVia (fun _ k => castTop (own_ef1 m p1) k) ?_
  show ownFin _ _ _ _ _ (T0.setTop (mkF m 0 #[.val (.int p1)] []))
  refine ownVia (fun _ k => XS.iloadN X0.here hx rfl (hb hby d1_0) rfl k) ?_
  show ownFin _ _ _ _ _ (T0.setTop (mkF m 1 #[.val (.int p1)] [(.int p1)]))
  by_cases hc2 : p1 = (0 : Int32)
  case pos =>
    have hc2I : p1.toInt = 0 := (own_eqi rfl (by decide)).mp hc2
    refine ownVia (fun _ k => XS.ifNo X0.here hx rfl (hb hby d1_1) rfl ((if0 _ _).trans (teq hc2).2) k) ?_
    show ownFin _ _ _ _ _ (T0.setTop (mkF m 4 #[.val (.int p1)] []))
    obtain ⟨r, S_r, E_r, F_r⟩ := k0
    rw [← hc2] at F_r
    obtain ⟨T3, X3, e3, st3⟩ := getS2 X0 hx hZ hown (host := "") (Or.inl (hw _ (List.mem_of_getElem? (i := 8) rfl))) Via.refl e0 S_r (g := (mkF m 4 #[.val (.int p1)] [])) rfl (hb hby d1_4)
    refine ownVia st3 ?_
    show ownFin _ _ _ _ _ (T3.setTop (mkF m 7 #[.val (.int p1)] [(.ref r)]))
    refine ownRetA X3 hx hlk (ty := (.object "com/example/oubliette/oubliette/engine/Rank")) hret rfl (hb hby d1_7) (by decide) (by decide) ?_
    show (Q_own_rank Z p1 h0 n0 ) (some (.ref r)) T3.heap _
    rw [e3]
    exact ⟨r, rfl, N0, rfl, E_r, F_r⟩
  case neg =>
    have hc2I : ¬ p1.toInt = 0 := fun q => hc2 ((own_eqi rfl (by decide)).mpr q)
    refine ownVia (fun _ k => XS.ifYes X0.here hx rfl (pc0 := 1) (pc' := 8) rfl (hb hby d1_1) rfl ((if0 _ _).trans (feq hc2).2) (by decide) (by decide) k) ?_
    show ownFin _ _ _ _ _ (T0.setTop (mkF m 8 #[.val (.int p1)] []))
    refine ownVia (fun _ k => XS.iloadN X0.here hx rfl (hb hby d1_8) rfl k) ?_
    show ownFin _ _ _ _ _ (T0.setTop (mkF m 9 #[.val (.int p1)] [(.int p1)]))
    refine ownVia (fun _ k => XS.iconst X0.here hx rfl (hb hby d1_9) k) ?_
    show ownFin _ _ _ _ _ (T0.setTop (mkF m 10 #[.val (.int p1)] [(.int (1 : Int32)), (.int p1)]))
    by_cases hc4 : p1 = (1 : Int32)
    case pos =>
      have hc4I : p1.toInt = 1 := (own_eqi rfl (by decide)).mp hc4
      refine ownVia (fun _ k => XS.icmpNo X0.here hx rfl (hb hby d1_10) rfl (teq hc4).2 k) ?_
      show ownFin _ _ _ _ _ (T0.setTop (mkF m 13 #[.val (.int p1)] []))
      obtain ⟨r, S_r, E_r, F_r⟩ := k1
      rw [← hc4] at F_r
      obtain ⟨T5, X5, e5, st5⟩ := getS2 X0 hx hZ hown (host := "") (Or.inl (hw _ (List.mem_of_getElem? (i := 65) rfl))) Via.refl e0 S_r (g := (mkF m 13 #[.val (.int p1)] [])) rfl (hb hby d1_13)
      refine ownVia st5 ?_
      show ownFin _ _ _ _ _ (T5.setTop (mkF m 16 #[.val (.int p1)] [(.ref r)]))
      refine ownRetA X5 hx hlk (ty := (.object "com/example/oubliette/oubliette/engine/Rank")) hret rfl (hb hby d1_16) (by decide) (by decide) ?_
      show (Q_own_rank Z p1 h0 n0 ) (some (.ref r)) T5.heap _
      rw [e5]
      exact ⟨r, rfl, N0, rfl, E_r, F_r⟩
    case neg =>
      have hc4I : ¬ p1.toInt = 1 := fun q => hc4 ((own_eqi rfl (by decide)).mpr q)
      refine ownVia (fun _ k => XS.icmpYes X0.here hx rfl (pc0 := 10) (pc' := 17) rfl (hb hby d1_10) rfl (feq hc4).2 (by decide) (by decide) k) ?_
      show ownFin _ _ _ _ _ (T0.setTop (mkF m 17 #[.val (.int p1)] []))
      refine ownVia (fun _ k => XS.iloadN X0.here hx rfl (hb hby d1_17) rfl k) ?_
      show ownFin _ _ _ _ _ (T0.setTop (mkF m 18 #[.val (.int p1)] [(.int p1)]))
      refine ownVia (fun _ k => XS.iconst X0.here hx rfl (hb hby d1_18) k) ?_
      show ownFin _ _ _ _ _ (T0.setTop (mkF m 19 #[.val (.int p1)] [(.int (2 : Int32)), (.int p1)]))
      by_cases hc6 : p1 = (2 : Int32)
      case pos =>
        have hc6I : p1.toInt = 2 := (own_eqi rfl (by decide)).mp hc6
        refine ownVia (fun _ k => XS.icmpNo X0.here hx rfl (hb hby d1_19) rfl (teq hc6).2 k) ?_
        show ownFin _ _ _ _ _ (T0.setTop (mkF m 22 #[.val (.int p1)] []))
        obtain ⟨r, S_r, E_r, F_r⟩ := k2
        rw [← hc6] at F_r
        obtain ⟨T7, X7, e7, st7⟩ := getS2 X0 hx hZ hown (host := "") (Or.inl (hw _ (List.mem_of_getElem? (i := 85) rfl))) Via.refl e0 S_r (g := (mkF m 22 #[.val (.int p1)] [])) rfl (hb hby d1_22)
        refine ownVia st7 ?_
        show ownFin _ _ _ _ _ (T7.setTop (mkF m 25 #[.val (.int p1)] [(.ref r)]))
        refine ownRetA X7 hx hlk (ty := (.object "com/example/oubliette/oubliette/engine/Rank")) hret rfl (hb hby d1_25) (by decide) (by decide) ?_
        show (Q_own_rank Z p1 h0 n0 ) (some (.ref r)) T7.heap _
        rw [e7]
        exact ⟨r, rfl, N0, rfl, E_r, F_r⟩
      case neg =>
        have hc6I : ¬ p1.toInt = 2 := fun q => hc6 ((own_eqi rfl (by decide)).mpr q)
        refine ownVia (fun _ k => XS.icmpYes X0.here hx rfl (pc0 := 19) (pc' := 26) rfl (hb hby d1_19) rfl (feq hc6).2 (by decide) (by decide) k) ?_
        show ownFin _ _ _ _ _ (T0.setTop (mkF m 26 #[.val (.int p1)] []))
        refine ownVia (fun _ k => XS.iloadN X0.here hx rfl (hb hby d1_26) rfl k) ?_
        show ownFin _ _ _ _ _ (T0.setTop (mkF m 27 #[.val (.int p1)] [(.int p1)]))
        refine ownVia (fun _ k => XS.iconst X0.here hx rfl (hb hby d1_27) k) ?_
        show ownFin _ _ _ _ _ (T0.setTop (mkF m 28 #[.val (.int p1)] [(.int (3 : Int32)), (.int p1)]))
        by_cases hc8 : p1 = (3 : Int32)
        case pos =>
          have hc8I : p1.toInt = 3 := (own_eqi rfl (by decide)).mp hc8
          refine ownVia (fun _ k => XS.icmpNo X0.here hx rfl (hb hby d1_28) rfl (teq hc8).2 k) ?_
          show ownFin _ _ _ _ _ (T0.setTop (mkF m 31 #[.val (.int p1)] []))
          obtain ⟨r, S_r, E_r, F_r⟩ := k3
          rw [← hc8] at F_r
          obtain ⟨T9, X9, e9, st9⟩ := getS2 X0 hx hZ hown (host := "") (Or.inl (hw _ (List.mem_of_getElem? (i := 71) rfl))) Via.refl e0 S_r (g := (mkF m 31 #[.val (.int p1)] [])) rfl (hb hby d1_31)
          refine ownVia st9 ?_
          show ownFin _ _ _ _ _ (T9.setTop (mkF m 34 #[.val (.int p1)] [(.ref r)]))
          refine ownRetA X9 hx hlk (ty := (.object "com/example/oubliette/oubliette/engine/Rank")) hret rfl (hb hby d1_34) (by decide) (by decide) ?_
          show (Q_own_rank Z p1 h0 n0 ) (some (.ref r)) T9.heap _
          rw [e9]
          exact ⟨r, rfl, N0, rfl, E_r, F_r⟩
        case neg =>
          have hc8I : ¬ p1.toInt = 3 := fun q => hc8 ((own_eqi rfl (by decide)).mpr q)
          refine ownVia (fun _ k => XS.icmpYes X0.here hx rfl (pc0 := 28) (pc' := 35) rfl (hb hby d1_28) rfl (feq hc8).2 (by decide) (by decide) k) ?_
          show ownFin _ _ _ _ _ (T0.setTop (mkF m 35 #[.val (.int p1)] []))
          refine ownVia (fun _ k => XS.iloadN X0.here hx rfl (hb hby d1_35) rfl k) ?_
          show ownFin _ _ _ _ _ (T0.setTop (mkF m 36 #[.val (.int p1)] [(.int p1)]))
          refine ownVia (fun _ k => XS.iconst X0.here hx rfl (hb hby d1_36) k) ?_
          show ownFin _ _ _ _ _ (T0.setTop (mkF m 37 #[.val (.int p1)] [(.int (4 : Int32)), (.int p1)]))
          by_cases hc10 : p1 = (4 : Int32)
          case pos =>
            have hc10I : p1.toInt = 4 := (own_eqi rfl (by decide)).mp hc10
            refine ownVia (fun _ k => XS.icmpNo X0.here hx rfl (hb hby d1_37) rfl (teq hc10).2 k) ?_
            show ownFin _ _ _ _ _ (T0.setTop (mkF m 40 #[.val (.int p1)] []))
            obtain ⟨r, S_r, E_r, F_r⟩ := k4
            rw [← hc10] at F_r
            obtain ⟨T11, X11, e11, st11⟩ := getS2 X0 hx hZ hown (host := "") (Or.inl (hw _ (List.mem_of_getElem? (i := 69) rfl))) Via.refl e0 S_r (g := (mkF m 40 #[.val (.int p1)] [])) rfl (hb hby d1_40)
            refine ownVia st11 ?_
            show ownFin _ _ _ _ _ (T11.setTop (mkF m 43 #[.val (.int p1)] [(.ref r)]))
            refine ownRetA X11 hx hlk (ty := (.object "com/example/oubliette/oubliette/engine/Rank")) hret rfl (hb hby d1_43) (by decide) (by decide) ?_
            show (Q_own_rank Z p1 h0 n0 ) (some (.ref r)) T11.heap _
            rw [e11]
            exact ⟨r, rfl, N0, rfl, E_r, F_r⟩
          case neg =>
            have hc10I : ¬ p1.toInt = 4 := fun q => hc10 ((own_eqi rfl (by decide)).mpr q)
            refine ownVia (fun _ k => XS.icmpYes X0.here hx rfl (pc0 := 37) (pc' := 44) rfl (hb hby d1_37) rfl (feq hc10).2 (by decide) (by decide) k) ?_
            show ownFin _ _ _ _ _ (T0.setTop (mkF m 44 #[.val (.int p1)] []))
            refine ownVia (fun _ k => XS.iloadN X0.here hx rfl (hb hby d1_44) rfl k) ?_
            show ownFin _ _ _ _ _ (T0.setTop (mkF m 45 #[.val (.int p1)] [(.int p1)]))
            refine ownVia (fun _ k => XS.iconst X0.here hx rfl (hb hby d1_45) k) ?_
            show ownFin _ _ _ _ _ (T0.setTop (mkF m 46 #[.val (.int p1)] [(.int (5 : Int32)), (.int p1)]))
            by_cases hc12 : p1 = (5 : Int32)
            case pos =>
              have hc12I : p1.toInt = 5 := (own_eqi rfl (by decide)).mp hc12
              refine ownVia (fun _ k => XS.icmpNo X0.here hx rfl (hb hby d1_46) rfl (teq hc12).2 k) ?_
              show ownFin _ _ _ _ _ (T0.setTop (mkF m 49 #[.val (.int p1)] []))
              obtain ⟨r, S_r, E_r, F_r⟩ := k5
              rw [← hc12] at F_r
              obtain ⟨T13, X13, e13, st13⟩ := getS2 X0 hx hZ hown (host := "") (Or.inl (hw _ (List.mem_of_getElem? (i := 77) rfl))) Via.refl e0 S_r (g := (mkF m 49 #[.val (.int p1)] [])) rfl (hb hby d1_49)
              refine ownVia st13 ?_
              show ownFin _ _ _ _ _ (T13.setTop (mkF m 52 #[.val (.int p1)] [(.ref r)]))
              refine ownRetA X13 hx hlk (ty := (.object "com/example/oubliette/oubliette/engine/Rank")) hret rfl (hb hby d1_52) (by decide) (by decide) ?_
              show (Q_own_rank Z p1 h0 n0 ) (some (.ref r)) T13.heap _
              rw [e13]
              exact ⟨r, rfl, N0, rfl, E_r, F_r⟩
            case neg =>
              have hc12I : ¬ p1.toInt = 5 := fun q => hc12 ((own_eqi rfl (by decide)).mpr q)
              refine ownVia (fun _ k => XS.icmpYes X0.here hx rfl (pc0 := 46) (pc' := 53) rfl (hb hby d1_46) rfl (feq hc12).2 (by decide) (by decide) k) ?_
              show ownFin _ _ _ _ _ (T0.setTop (mkF m 53 #[.val (.int p1)] []))
              refine ownVia (fun _ k => XS.iloadN X0.here hx rfl (hb hby d1_53) rfl k) ?_
              show ownFin _ _ _ _ _ (T0.setTop (mkF m 54 #[.val (.int p1)] [(.int p1)]))
              refine ownVia (fun _ k => XS.bipush X0.here hx rfl (hb hby d1_54) k) ?_
              show ownFin _ _ _ _ _ (T0.setTop (mkF m 56 #[.val (.int p1)] [(.int (6 : Int32)), (.int p1)]))
              by_cases hc14 : p1 = (6 : Int32)
              case pos =>
                have hc14I : p1.toInt = 6 := (own_eqi rfl (by decide)).mp hc14
                refine ownVia (fun _ k => XS.icmpNo X0.here hx rfl (hb hby d1_56) rfl (teq hc14).2 k) ?_
                show ownFin _ _ _ _ _ (T0.setTop (mkF m 59 #[.val (.int p1)] []))
                obtain ⟨r, S_r, E_r, F_r⟩ := k6
                rw [← hc14] at F_r
                obtain ⟨T15, X15, e15, st15⟩ := getS2 X0 hx hZ hown (host := "") (Or.inl (hw _ (List.mem_of_getElem? (i := 79) rfl))) Via.refl e0 S_r (g := (mkF m 59 #[.val (.int p1)] [])) rfl (hb hby d1_59)
                refine ownVia st15 ?_
                show ownFin _ _ _ _ _ (T15.setTop (mkF m 62 #[.val (.int p1)] [(.ref r)]))
                refine ownRetA X15 hx hlk (ty := (.object "com/example/oubliette/oubliette/engine/Rank")) hret rfl (hb hby d1_62) (by decide) (by decide) ?_
                show (Q_own_rank Z p1 h0 n0 ) (some (.ref r)) T15.heap _
                rw [e15]
                exact ⟨r, rfl, N0, rfl, E_r, F_r⟩
              case neg =>
                have hc14I : ¬ p1.toInt = 6 := fun q => hc14 ((own_eqi rfl (by decide)).mpr q)
                refine ownVia (fun _ k => XS.icmpYes X0.here hx rfl (pc0 := 56) (pc' := 63) rfl (hb hby d1_56) rfl (feq hc14).2 (by decide) (by decide) k) ?_
                show ownFin _ _ _ _ _ (T0.setTop (mkF m 63 #[.val (.int p1)] []))
                refine ownVia (fun _ k => XS.iloadN X0.here hx rfl (hb hby d1_63) rfl k) ?_
                show ownFin _ _ _ _ _ (T0.setTop (mkF m 64 #[.val (.int p1)] [(.int p1)]))
                refine ownVia (fun _ k => XS.bipush X0.here hx rfl (hb hby d1_64) k) ?_
                show ownFin _ _ _ _ _ (T0.setTop (mkF m 66 #[.val (.int p1)] [(.int (7 : Int32)), (.int p1)]))
                by_cases hc16 : p1 = (7 : Int32)
                case pos =>
                  have hc16I : p1.toInt = 7 := (own_eqi rfl (by decide)).mp hc16
                  refine ownVia (fun _ k => XS.icmpNo X0.here hx rfl (hb hby d1_66) rfl (teq hc16).2 k) ?_
                  show ownFin _ _ _ _ _ (T0.setTop (mkF m 69 #[.val (.int p1)] []))
                  obtain ⟨r, S_r, E_r, F_r⟩ := k7
                  rw [← hc16] at F_r
                  obtain ⟨T17, X17, e17, st17⟩ := getS2 X0 hx hZ hown (host := "") (Or.inl (hw _ (List.mem_of_getElem? (i := 93) rfl))) Via.refl e0 S_r (g := (mkF m 69 #[.val (.int p1)] [])) rfl (hb hby d1_69)
                  refine ownVia st17 ?_
                  show ownFin _ _ _ _ _ (T17.setTop (mkF m 72 #[.val (.int p1)] [(.ref r)]))
                  refine ownRetA X17 hx hlk (ty := (.object "com/example/oubliette/oubliette/engine/Rank")) hret rfl (hb hby d1_72) (by decide) (by decide) ?_
                  show (Q_own_rank Z p1 h0 n0 ) (some (.ref r)) T17.heap _
                  rw [e17]
                  exact ⟨r, rfl, N0, rfl, E_r, F_r⟩
                case neg =>
                  have hc16I : ¬ p1.toInt = 7 := fun q => hc16 ((own_eqi rfl (by decide)).mpr q)
                  refine ownVia (fun _ k => XS.icmpYes X0.here hx rfl (pc0 := 66) (pc' := 73) rfl (hb hby d1_66) rfl (feq hc16).2 (by decide) (by decide) k) ?_
                  show ownFin _ _ _ _ _ (T0.setTop (mkF m 73 #[.val (.int p1)] []))
                  refine ownVia (fun _ k => XS.iloadN X0.here hx rfl (hb hby d1_73) rfl k) ?_
                  show ownFin _ _ _ _ _ (T0.setTop (mkF m 74 #[.val (.int p1)] [(.int p1)]))
                  refine ownVia (fun _ k => XS.bipush X0.here hx rfl (hb hby d1_74) k) ?_
                  show ownFin _ _ _ _ _ (T0.setTop (mkF m 76 #[.val (.int p1)] [(.int (8 : Int32)), (.int p1)]))
                  by_cases hc18 : p1 = (8 : Int32)
                  case pos =>
                    have hc18I : p1.toInt = 8 := (own_eqi rfl (by decide)).mp hc18
                    refine ownVia (fun _ k => XS.icmpNo X0.here hx rfl (hb hby d1_76) rfl (teq hc18).2 k) ?_
                    show ownFin _ _ _ _ _ (T0.setTop (mkF m 79 #[.val (.int p1)] []))
                    obtain ⟨r, S_r, E_r, F_r⟩ := k8
                    rw [← hc18] at F_r
                    obtain ⟨T19, X19, e19, st19⟩ := getS2 X0 hx hZ hown (host := "") (Or.inl (hw _ (List.mem_of_getElem? (i := 81) rfl))) Via.refl e0 S_r (g := (mkF m 79 #[.val (.int p1)] [])) rfl (hb hby d1_79)
                    refine ownVia st19 ?_
                    show ownFin _ _ _ _ _ (T19.setTop (mkF m 82 #[.val (.int p1)] [(.ref r)]))
                    refine ownRetA X19 hx hlk (ty := (.object "com/example/oubliette/oubliette/engine/Rank")) hret rfl (hb hby d1_82) (by decide) (by decide) ?_
                    show (Q_own_rank Z p1 h0 n0 ) (some (.ref r)) T19.heap _
                    rw [e19]
                    exact ⟨r, rfl, N0, rfl, E_r, F_r⟩
                  case neg =>
                    have hc18I : ¬ p1.toInt = 8 := fun q => hc18 ((own_eqi rfl (by decide)).mpr q)
                    refine ownVia (fun _ k => XS.icmpYes X0.here hx rfl (pc0 := 76) (pc' := 83) rfl (hb hby d1_76) rfl (feq hc18).2 (by decide) (by decide) k) ?_
                    show ownFin _ _ _ _ _ (T0.setTop (mkF m 83 #[.val (.int p1)] []))
                    refine ownVia (fun _ k => XS.iloadN X0.here hx rfl (hb hby d1_83) rfl k) ?_
                    show ownFin _ _ _ _ _ (T0.setTop (mkF m 84 #[.val (.int p1)] [(.int p1)]))
                    refine ownVia (fun _ k => XS.bipush X0.here hx rfl (hb hby d1_84) k) ?_
                    show ownFin _ _ _ _ _ (T0.setTop (mkF m 86 #[.val (.int p1)] [(.int (9 : Int32)), (.int p1)]))
                    by_cases hc20 : p1 = (9 : Int32)
                    case pos =>
                      have hc20I : p1.toInt = 9 := (own_eqi rfl (by decide)).mp hc20
                      refine ownVia (fun _ k => XS.icmpNo X0.here hx rfl (hb hby d1_86) rfl (teq hc20).2 k) ?_
                      show ownFin _ _ _ _ _ (T0.setTop (mkF m 89 #[.val (.int p1)] []))
                      obtain ⟨r, S_r, E_r, F_r⟩ := k9
                      rw [← hc20] at F_r
                      obtain ⟨T21, X21, e21, st21⟩ := getS2 X0 hx hZ hown (host := "") (Or.inl (hw _ (List.mem_of_getElem? (i := 75) rfl))) Via.refl e0 S_r (g := (mkF m 89 #[.val (.int p1)] [])) rfl (hb hby d1_89)
                      refine ownVia st21 ?_
                      show ownFin _ _ _ _ _ (T21.setTop (mkF m 92 #[.val (.int p1)] [(.ref r)]))
                      refine ownRetA X21 hx hlk (ty := (.object "com/example/oubliette/oubliette/engine/Rank")) hret rfl (hb hby d1_92) (by decide) (by decide) ?_
                      show (Q_own_rank Z p1 h0 n0 ) (some (.ref r)) T21.heap _
                      rw [e21]
                      exact ⟨r, rfl, N0, rfl, E_r, F_r⟩
                    case neg =>
                      have hc20I : ¬ p1.toInt = 9 := fun q => hc20 ((own_eqi rfl (by decide)).mpr q)
                      refine ownVia (fun _ k => XS.icmpYes X0.here hx rfl (pc0 := 86) (pc' := 93) rfl (hb hby d1_86) rfl (feq hc20).2 (by decide) (by decide) k) ?_
                      show ownFin _ _ _ _ _ (T0.setTop (mkF m 93 #[.val (.int p1)] []))
                      refine ownVia (fun _ k => XS.iloadN X0.here hx rfl (hb hby d1_93) rfl k) ?_
                      show ownFin _ _ _ _ _ (T0.setTop (mkF m 94 #[.val (.int p1)] [(.int p1)]))
                      refine ownVia (fun _ k => XS.bipush X0.here hx rfl (hb hby d1_94) k) ?_
                      show ownFin _ _ _ _ _ (T0.setTop (mkF m 96 #[.val (.int p1)] [(.int (10 : Int32)), (.int p1)]))
                      by_cases hc22 : p1 = (10 : Int32)
                      case pos =>
                        have hc22I : p1.toInt = 10 := (own_eqi rfl (by decide)).mp hc22
                        refine ownVia (fun _ k => XS.icmpNo X0.here hx rfl (hb hby d1_96) rfl (teq hc22).2 k) ?_
                        show ownFin _ _ _ _ _ (T0.setTop (mkF m 99 #[.val (.int p1)] []))
                        obtain ⟨r, S_r, E_r, F_r⟩ := k10
                        rw [← hc22] at F_r
                        obtain ⟨T23, X23, e23, st23⟩ := getS2 X0 hx hZ hown (host := "") (Or.inl (hw _ (List.mem_of_getElem? (i := 89) rfl))) Via.refl e0 S_r (g := (mkF m 99 #[.val (.int p1)] [])) rfl (hb hby d1_99)
                        refine ownVia st23 ?_
                        show ownFin _ _ _ _ _ (T23.setTop (mkF m 102 #[.val (.int p1)] [(.ref r)]))
                        refine ownRetA X23 hx hlk (ty := (.object "com/example/oubliette/oubliette/engine/Rank")) hret rfl (hb hby d1_102) (by decide) (by decide) ?_
                        show (Q_own_rank Z p1 h0 n0 ) (some (.ref r)) T23.heap _
                        rw [e23]
                        exact ⟨r, rfl, N0, rfl, E_r, F_r⟩
                      case neg =>
                        have hc22I : ¬ p1.toInt = 10 := fun q => hc22 ((own_eqi rfl (by decide)).mpr q)
                        refine ownVia (fun _ k => XS.icmpYes X0.here hx rfl (pc0 := 96) (pc' := 103) rfl (hb hby d1_96) rfl (feq hc22).2 (by decide) (by decide) k) ?_
                        show ownFin _ _ _ _ _ (T0.setTop (mkF m 103 #[.val (.int p1)] []))
                        refine ownVia (fun _ k => XS.iloadN X0.here hx rfl (hb hby d1_103) rfl k) ?_
                        show ownFin _ _ _ _ _ (T0.setTop (mkF m 104 #[.val (.int p1)] [(.int p1)]))
                        refine ownVia (fun _ k => XS.bipush X0.here hx rfl (hb hby d1_104) k) ?_
                        show ownFin _ _ _ _ _ (T0.setTop (mkF m 106 #[.val (.int p1)] [(.int (11 : Int32)), (.int p1)]))
                        by_cases hc24 : p1 = (11 : Int32)
                        case pos =>
                          have hc24I : p1.toInt = 11 := (own_eqi rfl (by decide)).mp hc24
                          refine ownVia (fun _ k => XS.icmpNo X0.here hx rfl (hb hby d1_106) rfl (teq hc24).2 k) ?_
                          show ownFin _ _ _ _ _ (T0.setTop (mkF m 109 #[.val (.int p1)] []))
                          obtain ⟨r, S_r, E_r, F_r⟩ := k11
                          rw [← hc24] at F_r
                          obtain ⟨T25, X25, e25, st25⟩ := getS2 X0 hx hZ hown (host := "") (Or.inl (hw _ (List.mem_of_getElem? (i := 91) rfl))) Via.refl e0 S_r (g := (mkF m 109 #[.val (.int p1)] [])) rfl (hb hby d1_109)
                          refine ownVia st25 ?_
                          show ownFin _ _ _ _ _ (T25.setTop (mkF m 112 #[.val (.int p1)] [(.ref r)]))
                          refine ownRetA X25 hx hlk (ty := (.object "com/example/oubliette/oubliette/engine/Rank")) hret rfl (hb hby d1_112) (by decide) (by decide) ?_
                          show (Q_own_rank Z p1 h0 n0 ) (some (.ref r)) T25.heap _
                          rw [e25]
                          exact ⟨r, rfl, N0, rfl, E_r, F_r⟩
                        case neg =>
                          have hc24I : ¬ p1.toInt = 11 := fun q => hc24 ((own_eqi rfl (by decide)).mpr q)
                          refine ownVia (fun _ k => XS.icmpYes X0.here hx rfl (pc0 := 106) (pc' := 113) rfl (hb hby d1_106) rfl (feq hc24).2 (by decide) (by decide) k) ?_
                          show ownFin _ _ _ _ _ (T0.setTop (mkF m 113 #[.val (.int p1)] []))
                          have hl : p1 = (12 : Int32) := (own_eqi rfl (by decide : (12 : Int32).toInt = 12)).mpr (by omega)
                          obtain ⟨r, S_r, E_r, F_r⟩ := k12
                          rw [← hl] at F_r
                          obtain ⟨T26, X26, e26, st26⟩ := getS2 X0 hx hZ hown (host := "") (Or.inl (hw _ (List.mem_of_getElem? (i := 83) rfl))) Via.refl e0 S_r (g := (mkF m 113 #[.val (.int p1)] [])) rfl (hb hby d1_113)
                          refine ownVia st26 ?_
                          show ownFin _ _ _ _ _ (T26.setTop (mkF m 116 #[.val (.int p1)] [(.ref r)]))
                          refine ownRetA X26 hx hlk (ty := (.object "com/example/oubliette/oubliette/engine/Rank")) hret rfl (hb hby d1_116) (by decide) (by decide) ?_
                          show (Q_own_rank Z p1 h0 n0 ) (some (.ref r)) T26.heap _
                          rw [e26]
                          exact ⟨r, rfl, N0, rfl, E_r, F_r⟩
theorem d2_0 : decode method_3_code 0 = .ok (.iload_n 0, 1) := by decide +kernel
theorem d2_1 : decode method_3_code 1 = .ok (.ifCond .ne 7, 3) := by decide +kernel
theorem d2_4 : decode method_3_code 4 = .ok (.getstatic 49, 3) := by decide +kernel
theorem d2_7 : decode method_3_code 7 = .ok (.areturn, 1) := by decide +kernel
theorem d2_8 : decode method_3_code 8 = .ok (.iload_n 0, 1) := by decide +kernel
theorem d2_9 : decode method_3_code 9 = .ok (.iconst 1, 1) := by decide +kernel
theorem d2_10 : decode method_3_code 10 = .ok (.if_icmp .ne 7, 3) := by decide +kernel
theorem d2_13 : decode method_3_code 13 = .ok (.getstatic 55, 3) := by decide +kernel
theorem d2_16 : decode method_3_code 16 = .ok (.areturn, 1) := by decide +kernel
theorem d2_17 : decode method_3_code 17 = .ok (.iload_n 0, 1) := by decide +kernel
theorem d2_18 : decode method_3_code 18 = .ok (.iconst 2, 1) := by decide +kernel
theorem d2_19 : decode method_3_code 19 = .ok (.if_icmp .ne 7, 3) := by decide +kernel
theorem d2_22 : decode method_3_code 22 = .ok (.getstatic 58, 3) := by decide +kernel
theorem d2_25 : decode method_3_code 25 = .ok (.areturn, 1) := by decide +kernel
theorem d2_26 : decode method_3_code 26 = .ok (.getstatic 61, 3) := by decide +kernel
theorem d2_29 : decode method_3_code 29 = .ok (.areturn, 1) := by decide +kernel
theorem own_ef27 (m : MethodId) (p1 : Int32) : entryFrame m #[(.int p1)] 1 = mkF m 0 #[.val (.int p1)] [] := by first | (simp [entryFrame, mkF, argsToLocals, Value.category]; done) | rfl
def Q_own_suit (Z : State) (p1 : Int32) (h0 : Heap) (n0 : Nat)  : Option Value → Heap → List Loc → Prop := fun v h L => ∃ r, v = some (.ref r) ∧ Fr n0 L ∧ h = h0 ∧ Exa Z h0 r "com/example/oubliette/oubliette/engine/Suit" ∧ Fld Z h0 r "java/lang/Enum" "ordinal" "I" (.int p1)
set_option maxRecDepth 65536 in
set_option maxHeartbeats 40000000 in
theorem own_suit (l : Launch) (Z : State) (a0 : Array Value) (hw : ∀ d ∈ tables_1, d.before a0 Z = true)  (p1 : Int32) (h0 : Heap) (n0 : Nat)  (Z0 : n0 ≤ h0.size) (k0 : own_E Z h0 "com/example/oubliette/oubliette/engine/Suit" "Lcom/example/oubliette/oubliette/engine/Suit;" "CLUBS" (0 : Int32)) (k1 : own_E Z h0 "com/example/oubliette/oubliette/engine/Suit" "Lcom/example/oubliette/oubliette/engine/Suit;" "DIAMONDS" (1 : Int32)) (k2 : own_E Z h0 "com/example/oubliette/oubliette/engine/Suit" "Lcom/example/oubliette/oubliette/engine/Suit;" "HEARTS" (2 : Int32)) (k3 : own_E Z h0 "com/example/oubliette/oubliette/engine/Suit" "Lcom/example/oubliette/oubliette/engine/Suit;" "SPADES" (3 : Int32)) (hp : 0 ≤ p1.toInt ∧ p1.toInt ≤ 3) :
    ownMet l Z (⟨"com/example/oubliette/oubliette/engine/CardPlacePinLaw", "suitOf", "(I)Lcom/example/oubliette/oubliette/engine/Suit;"⟩ : MethodName) method_3_code 1 (some (.object "com/example/oubliette/oubliette/engine/Suit")) [] ({ frames := 0, cells := 0, slots := 0, locals := 0 } : Room) #[(.int p1)] h0 (Q_own_suit Z p1 h0 n0 ) := by
  refine ownBody (plainFor_of_name own_pn0) ?_
  intro p e s m below meth c T0 hx hby hml hret hlk hZ hown hnm X0 e0
  have N0 : Fr n0 [] := Fr.nil n0
  refine ownVia (fun _ k => castTop (own_ef27 m p1) k) ?_
  show ownFin _ _ _ _ _ (T0.setTop (mkF m 0 #[.val (.int p1)] []))
  refine ownVia (fun _ k => XS.iloadN X0.here hx rfl (hb hby d2_0) rfl k) ?_
  show ownFin _ _ _ _ _ (T0.setTop (mkF m 1 #[.val (.int p1)] [(.int p1)]))
  by_cases hc28 : p1 = (0 : Int32)
  case pos =>
    have hc28I : p1.toInt = 0 := (own_eqi rfl (by decide)).mp hc28
    refine ownVia (fun _ k => XS.ifNo X0.here hx rfl (hb hby d2_1) rfl ((if0 _ _).trans (teq hc28).2) k) ?_
    show ownFin _ _ _ _ _ (T0.setTop (mkF m 4 #[.val (.int p1)] []))
    obtain ⟨r, S_r, E_r, F_r⟩ := k0
    rw [← hc28] at F_r
    obtain ⟨T29, X29, e29, st29⟩ := getS2 X0 hx hZ hown (host := "") (Or.inl (hw _ (List.mem_of_getElem? (i := 73) rfl))) Via.refl e0 S_r (g := (mkF m 4 #[.val (.int p1)] [])) rfl (hb hby d2_4)
    refine ownVia st29 ?_
    show ownFin _ _ _ _ _ (T29.setTop (mkF m 7 #[.val (.int p1)] [(.ref r)]))
    refine ownRetA X29 hx hlk (ty := (.object "com/example/oubliette/oubliette/engine/Suit")) hret rfl (hb hby d2_7) (by decide) (by decide) ?_
    show (Q_own_suit Z p1 h0 n0 ) (some (.ref r)) T29.heap _
    rw [e29]
    exact ⟨r, rfl, N0, rfl, E_r, F_r⟩
  case neg =>
    have hc28I : ¬ p1.toInt = 0 := fun q => hc28 ((own_eqi rfl (by decide)).mpr q)
    refine ownVia (fun _ k => XS.ifYes X0.here hx rfl (pc0 := 1) (pc' := 8) rfl (hb hby d2_1) rfl ((if0 _ _).trans (feq hc28).2) (by decide) (by decide) k) ?_
    show ownFin _ _ _ _ _ (T0.setTop (mkF m 8 #[.val (.int p1)] []))
    refine ownVia (fun _ k => XS.iloadN X0.here hx rfl (hb hby d2_8) rfl k) ?_
    show ownFin _ _ _ _ _ (T0.setTop (mkF m 9 #[.val (.int p1)] [(.int p1)]))
    refine ownVia (fun _ k => XS.iconst X0.here hx rfl (hb hby d2_9) k) ?_
    show ownFin _ _ _ _ _ (T0.setTop (mkF m 10 #[.val (.int p1)] [(.int (1 : Int32)), (.int p1)]))
    by_cases hc30 : p1 = (1 : Int32)
    case pos =>
      have hc30I : p1.toInt = 1 := (own_eqi rfl (by decide)).mp hc30
      refine ownVia (fun _ k => XS.icmpNo X0.here hx rfl (hb hby d2_10) rfl (teq hc30).2 k) ?_
      show ownFin _ _ _ _ _ (T0.setTop (mkF m 13 #[.val (.int p1)] []))
      obtain ⟨r, S_r, E_r, F_r⟩ := k1
      rw [← hc30] at F_r
      obtain ⟨T31, X31, e31, st31⟩ := getS2 X0 hx hZ hown (host := "") (Or.inl (hw _ (List.mem_of_getElem? (i := 67) rfl))) Via.refl e0 S_r (g := (mkF m 13 #[.val (.int p1)] [])) rfl (hb hby d2_13)
      refine ownVia st31 ?_
      show ownFin _ _ _ _ _ (T31.setTop (mkF m 16 #[.val (.int p1)] [(.ref r)]))
      refine ownRetA X31 hx hlk (ty := (.object "com/example/oubliette/oubliette/engine/Suit")) hret rfl (hb hby d2_16) (by decide) (by decide) ?_
      show (Q_own_suit Z p1 h0 n0 ) (some (.ref r)) T31.heap _
      rw [e31]
      exact ⟨r, rfl, N0, rfl, E_r, F_r⟩
    case neg =>
      have hc30I : ¬ p1.toInt = 1 := fun q => hc30 ((own_eqi rfl (by decide)).mpr q)
      refine ownVia (fun _ k => XS.icmpYes X0.here hx rfl (pc0 := 10) (pc' := 17) rfl (hb hby d2_10) rfl (feq hc30).2 (by decide) (by decide) k) ?_
      show ownFin _ _ _ _ _ (T0.setTop (mkF m 17 #[.val (.int p1)] []))
      refine ownVia (fun _ k => XS.iloadN X0.here hx rfl (hb hby d2_17) rfl k) ?_
      show ownFin _ _ _ _ _ (T0.setTop (mkF m 18 #[.val (.int p1)] [(.int p1)]))
      refine ownVia (fun _ k => XS.iconst X0.here hx rfl (hb hby d2_18) k) ?_
      show ownFin _ _ _ _ _ (T0.setTop (mkF m 19 #[.val (.int p1)] [(.int (2 : Int32)), (.int p1)]))
      by_cases hc32 : p1 = (2 : Int32)
      case pos =>
        have hc32I : p1.toInt = 2 := (own_eqi rfl (by decide)).mp hc32
        refine ownVia (fun _ k => XS.icmpNo X0.here hx rfl (hb hby d2_19) rfl (teq hc32).2 k) ?_
        show ownFin _ _ _ _ _ (T0.setTop (mkF m 22 #[.val (.int p1)] []))
        obtain ⟨r, S_r, E_r, F_r⟩ := k2
        rw [← hc32] at F_r
        obtain ⟨T33, X33, e33, st33⟩ := getS2 X0 hx hZ hown (host := "") (Or.inl (hw _ (List.mem_of_getElem? (i := 87) rfl))) Via.refl e0 S_r (g := (mkF m 22 #[.val (.int p1)] [])) rfl (hb hby d2_22)
        refine ownVia st33 ?_
        show ownFin _ _ _ _ _ (T33.setTop (mkF m 25 #[.val (.int p1)] [(.ref r)]))
        refine ownRetA X33 hx hlk (ty := (.object "com/example/oubliette/oubliette/engine/Suit")) hret rfl (hb hby d2_25) (by decide) (by decide) ?_
        show (Q_own_suit Z p1 h0 n0 ) (some (.ref r)) T33.heap _
        rw [e33]
        exact ⟨r, rfl, N0, rfl, E_r, F_r⟩
      case neg =>
        have hc32I : ¬ p1.toInt = 2 := fun q => hc32 ((own_eqi rfl (by decide)).mpr q)
        refine ownVia (fun _ k => XS.icmpYes X0.here hx rfl (pc0 := 19) (pc' := 26) rfl (hb hby d2_19) rfl (feq hc32).2 (by decide) (by decide) k) ?_
        show ownFin _ _ _ _ _ (T0.setTop (mkF m 26 #[.val (.int p1)] []))
        have hl : p1 = (3 : Int32) := (own_eqi rfl (by decide : (3 : Int32).toInt = 3)).mpr (by omega)
        obtain ⟨r, S_r, E_r, F_r⟩ := k3
        rw [← hl] at F_r
        obtain ⟨T34, X34, e34, st34⟩ := getS2 X0 hx hZ hown (host := "") (Or.inl (hw _ (List.mem_of_getElem? (i := 14) rfl))) Via.refl e0 S_r (g := (mkF m 26 #[.val (.int p1)] [])) rfl (hb hby d2_26)
        refine ownVia st34 ?_
        show ownFin _ _ _ _ _ (T34.setTop (mkF m 29 #[.val (.int p1)] [(.ref r)]))
        refine ownRetA X34 hx hlk (ty := (.object "com/example/oubliette/oubliette/engine/Suit")) hret rfl (hb hby d2_29) (by decide) (by decide) ?_
        show (Q_own_suit Z p1 h0 n0 ) (some (.ref r)) T34.heap _
        rw [e34]
        exact ⟨r, rfl, N0, rfl, E_r, F_r⟩
theorem d4_0 : decode jdk_30_method_1_code 0 = .ok (.aload_n 0, 1) := by decide +kernel
theorem d4_1 : decode jdk_30_method_1_code 1 = .ok (.invokespecial 1, 3) := by decide +kernel
theorem d4_4 : decode jdk_30_method_1_code 4 = .ok (.return_, 1) := by decide +kernel
theorem own_pn1 : plainName "java/lang/Record" = true := by first | (simp [plainName, overriddenIn]; done) | decide +kernel
theorem own_ef35 (m : MethodId) (a1 : Addr) : entryFrame m #[(.ref a1)] 1 = mkF m 0 #[.val (.ref a1)] [] := by first | (simp [entryFrame, mkF, argsToLocals, Value.category]; done) | rfl
def Q_own_rec (Z : State) (a1 : Addr) (h0 : Heap) (n0 : Nat)  : Option Value → Heap → List Loc → Prop := fun v h L => v = none ∧ Fr n0 L ∧ h = h0
set_option maxRecDepth 65536 in
set_option maxHeartbeats 40000000 in
theorem own_rec (l : Launch) (Z : State) (a0 : Array Value) (hw : ∀ d ∈ tables_1, d.before a0 Z = true)  (a1 : Addr) (h0 : Heap) (n0 : Nat)  (Z0 : n0 ≤ h0.size)  :
    ownMet l Z (⟨"java/lang/Record", "<init>", "()V"⟩ : MethodName) jdk_30_method_1_code 1 none [] ({ frames := 1, cells := 0, slots := 0, locals := 12 } : Room) #[(.ref a1)] h0 (Q_own_rec Z a1 h0 n0 ) := by
  refine ownBody (plainFor_of_name own_pn1) ?_
  intro p e s m below meth c T0 hx hby hml hret hlk hZ hown hnm X0 e0
  have N0 : Fr n0 [] := Fr.nil n0
  refine ownVia (fun _ k => castTop (own_ef35 m a1) k) ?_
  show ownFin _ _ _ _ _ (T0.setTop (mkF m 0 #[.val (.ref a1)] []))
  refine ownVia (fun _ k => XS.aloadN X0.here hx rfl (hb hby d4_0) rfl rfl k) ?_
  show ownFin _ _ _ _ _ (T0.setTop (mkF m 1 #[.val (.ref a1)] [(.ref a1)]))
  obtain ⟨T36, X36, e36, st36⟩ := initO X0 hx hZ hown (hw _ (List.mem_of_getElem? (i := 25) rfl)) (hw _ (List.mem_of_getElem? (i := 26) rfl)) (hw _ (List.mem_of_getElem? (i := 27) rfl)) e0 (g := (mkF m 1 #[.val (.ref a1)] [(.ref a1)])) rfl (by rw [hml]; rfl) rfl (hb hby d4_1) (by decide) (W := 0) (by show 2 * 0 + _ ≤ _; exact Nat.le_of_eq rfl) (by decide)
  refine ownVia st36 ?_
  show ownFin _ _ _ _ _ (T36.setTop (mkF m 4 #[.val (.ref a1)] []))
  refine ownRetV X36 hx hlk hret (hb hby d4_4) (by decide) (by decide) ?_
  show (Q_own_rec Z a1 h0 n0 ) none T36.heap _
  rw [e36]
  exact ⟨rfl, N0, rfl⟩
theorem d6_0 : decode jdk_31_method_11_code 0 = .ok (.aload_n 0, 1) := by decide +kernel
theorem d6_1 : decode jdk_31_method_11_code 1 = .ok (.ifnonnull 12, 3) := by decide +kernel
theorem d6_4 : decode jdk_31_method_11_code 4 = .ok (.new 84, 3) := by decide +kernel
theorem d6_7 : decode jdk_31_method_11_code 7 = .ok (.dup, 1) := by decide +kernel
theorem d6_8 : decode jdk_31_method_11_code 8 = .ok (.aload_n 1, 1) := by decide +kernel
theorem d6_9 : decode jdk_31_method_11_code 9 = .ok (.invokespecial 87, 3) := by decide +kernel
theorem d6_12 : decode jdk_31_method_11_code 12 = .ok (.athrow, 1) := by decide +kernel
theorem d6_13 : decode jdk_31_method_11_code 13 = .ok (.aload_n 0, 1) := by decide +kernel
theorem d6_14 : decode jdk_31_method_11_code 14 = .ok (.areturn, 1) := by decide +kernel
theorem own_pn2 : plainName "java/util/Objects" = true := by first | (simp [plainName, overriddenIn]; done) | decide +kernel
theorem own_ef37 (m : MethodId) (a1 : Addr) (a2 : Addr) : entryFrame m #[(.ref a1), (.ref a2)] 2 = mkF m 0 #[.val (.ref a1), .val (.ref a2)] [] := by first | (simp [entryFrame, mkF, argsToLocals, Value.category]; done) | rfl
def Q_own_rnn (Z : State) (a1 : Addr) (a2 : Addr) (h0 : Heap) (n0 : Nat)  : Option Value → Heap → List Loc → Prop := fun v h L => v = some (.ref a1) ∧ Fr n0 L ∧ h = h0
set_option maxRecDepth 65536 in
set_option maxHeartbeats 40000000 in
theorem own_rnn (l : Launch) (Z : State) (a0 : Array Value) (hw : ∀ d ∈ tables_1, d.before a0 Z = true)  (a1 : Addr) (a2 : Addr) (h0 : Heap) (n0 : Nat)  (Z0 : n0 ≤ h0.size)  :
    ownMet l Z (⟨"java/util/Objects", "requireNonNull", "(Ljava/lang/Object;Ljava/lang/String;)Ljava/lang/Object;"⟩ : MethodName) jdk_31_method_11_code 2 (some (.object "java/lang/Object")) [] ({ frames := 0, cells := 0, slots := 0, locals := 0 } : Room) #[(.ref a1), (.ref a2)] h0 (Q_own_rnn Z a1 a2 h0 n0 ) := by
  refine ownBody (plainFor_of_name own_pn2) ?_
  intro p e s m below meth c T0 hx hby hml hret hlk hZ hown hnm X0 e0
  have N0 : Fr n0 [] := Fr.nil n0
  refine ownVia (fun _ k => castTop (own_ef37 m a1 a2) k) ?_
  show ownFin _ _ _ _ _ (T0.setTop (mkF m 0 #[.val (.ref a1), .val (.ref a2)] []))
  refine ownVia (fun _ k => XS.aloadN X0.here hx rfl (hb hby d6_0) rfl rfl k) ?_
  show ownFin _ _ _ _ _ (T0.setTop (mkF m 1 #[.val (.ref a1), .val (.ref a2)] [(.ref a1)]))
  refine ownVia (fun _ k => XS.ifnonnullYes X0.here hx rfl (pc0 := 1) (pc' := 13) rfl (hb hby d6_1) rfl (by decide) (by decide) k) ?_
  show ownFin _ _ _ _ _ (T0.setTop (mkF m 13 #[.val (.ref a1), .val (.ref a2)] []))
  refine ownVia (fun _ k => XS.aloadN X0.here hx rfl (hb hby d6_13) rfl rfl k) ?_
  show ownFin _ _ _ _ _ (T0.setTop (mkF m 14 #[.val (.ref a1), .val (.ref a2)] [(.ref a1)]))
  refine ownRetA X0 hx hlk (ty := (.object "java/lang/Object")) hret rfl (hb hby d6_14) (by decide) (by decide) ?_
  show (Q_own_rnn Z a1 a2 h0 n0 ) (some (.ref a1)) T0.heap _
  rw [e0]
  exact ⟨rfl, N0, rfl⟩
theorem d3_0 : decode prog_3_method_1_code 0 = .ok (.aload_n 0, 1) := by decide +kernel
theorem d3_1 : decode prog_3_method_1_code 1 = .ok (.invokespecial 1, 3) := by decide +kernel
theorem d3_4 : decode prog_3_method_1_code 4 = .ok (.aload_n 1, 1) := by decide +kernel
theorem d3_5 : decode prog_3_method_1_code 5 = .ok (.ldc 7, 2) := by decide +kernel
theorem d3_7 : decode prog_3_method_1_code 7 = .ok (.invokestatic 9, 3) := by decide +kernel
theorem d3_10 : decode prog_3_method_1_code 10 = .ok (.pop, 1) := by decide +kernel
theorem d3_11 : decode prog_3_method_1_code 11 = .ok (.aload_n 2, 1) := by decide +kernel
theorem d3_12 : decode prog_3_method_1_code 12 = .ok (.ldc 15, 2) := by decide +kernel
theorem d3_14 : decode prog_3_method_1_code 14 = .ok (.invokestatic 9, 3) := by decide +kernel
theorem d3_17 : decode prog_3_method_1_code 17 = .ok (.pop, 1) := by decide +kernel
theorem d3_18 : decode prog_3_method_1_code 18 = .ok (.aload_n 0, 1) := by decide +kernel
theorem d3_19 : decode prog_3_method_1_code 19 = .ok (.aload_n 1, 1) := by decide +kernel
theorem d3_20 : decode prog_3_method_1_code 20 = .ok (.putfield 17, 3) := by decide +kernel
theorem d3_23 : decode prog_3_method_1_code 23 = .ok (.aload_n 0, 1) := by decide +kernel
theorem d3_24 : decode prog_3_method_1_code 24 = .ok (.aload_n 2, 1) := by decide +kernel
theorem d3_25 : decode prog_3_method_1_code 25 = .ok (.putfield 22, 3) := by decide +kernel
theorem d3_28 : decode prog_3_method_1_code 28 = .ok (.return_, 1) := by decide +kernel
theorem own_pn3 : plainName "com/example/oubliette/oubliette/engine/Card" = true := by first | (simp [plainName, overriddenIn]; done) | decide +kernel
theorem own_ef38 (m : MethodId) (a1 : Addr) (a2 : Addr) (a3 : Addr) : entryFrame m #[(.ref a1), (.ref a2), (.ref a3)] 3 = mkF m 0 #[.val (.ref a1), .val (.ref a2), .val (.ref a3)] [] := by first | (simp [entryFrame, mkF, argsToLocals, Value.category]; done) | rfl
def Q_own_init (Z : State) (a1 : Addr) (a2 : Addr) (a3 : Addr) (h0 : Heap) (n0 : Nat)  : Option Value → Heap → List Loc → Prop := fun v h L => v = none ∧ Fr n0 L ∧ Keep h0 h [a1] ∧ Fld Z h a1 "com/example/oubliette/oubliette/engine/Card" "rank" "Lcom/example/oubliette/oubliette/engine/Rank;" (.ref a2) ∧ Fld Z h a1 "com/example/oubliette/oubliette/engine/Card" "suit" "Lcom/example/oubliette/oubliette/engine/Suit;" (.ref a3)
theorem own_pd0 : parseMethodDescriptor "()V" = some ⟨[], none⟩ := by decide +kernel
theorem own_pd1 : parseMethodDescriptor "(Ljava/lang/Object;Ljava/lang/String;)Ljava/lang/Object;" = some ⟨[(.object "java/lang/Object"), (.object "java/lang/String")], some (.object "java/lang/Object")⟩ := by decide +kernel
set_option maxRecDepth 65536 in
set_option maxHeartbeats 40000000 in
theorem own_init (l : Launch) (Z : State) (a0 : Array Value) (hw : ∀ d ∈ tables_1, d.before a0 Z = true)  (a1 : Addr) (a2 : Addr) (a3 : Addr) (h0 : Heap) (n0 : Nat)  (Z0 : n0 ≤ h0.size) (F_a1_rank : Fld Z h0 a1 "com/example/oubliette/oubliette/engine/Card" "rank" "Lcom/example/oubliette/oubliette/engine/Rank;" .null) (F_a1_suit : Fld Z h0 a1 "com/example/oubliette/oubliette/engine/Card" "suit" "Lcom/example/oubliette/oubliette/engine/Suit;" .null) (E_a1 : Exa Z h0 a1 "com/example/oubliette/oubliette/engine/Card") (ge_a1 : n0 ≤ a1) :
    ownMetW l Z (⟨"com/example/oubliette/oubliette/engine/Card", "<init>", "(Lcom/example/oubliette/oubliette/engine/Rank;Lcom/example/oubliette/oubliette/engine/Suit;)V"⟩ : MethodName) prog_3_method_1_code 3 none [] ({ frames := 2, cells := 4, slots := 64, locals := 30 } : Room) #[(.ref a1), (.ref a2), (.ref a3)] h0 (Q_own_init Z a1 a2 a3 h0 n0 ) := by
  refine ownBodyW (plainFor_of_name own_pn3) ?_
  intro p e s m below meth c T0 hx hby hml hret hlk hZ hown hnm X0 e0
  have N0 : Fr n0 [] := Fr.nil n0
  refine ownVia (fun _ k => castTop (own_ef38 m a1 a2 a3) k) ?_
  show ownFin _ _ _ _ _ (T0.setTop (mkF m 0 #[.val (.ref a1), .val (.ref a2), .val (.ref a3)] []))
  have K0 : Keep h0 h0 [a1] := Keep.refl _ _
  have X0 : Stand p l e ({ frames := 2, cells := 4, slots := 64, locals := 30 } : Room) (s.setVm s.vm) m #[(.ref a1), (.ref a2), (.ref a3)] below meth c T0 [] 0 0 := X0
  have hS : s.Since s.vm h0.size := (State.WarmedH.refl s).since _
  have hk : h0.size ≤ h0.size := Nat.le_refl _
  refine ownVia (fun _ k => XS.aloadN X0.here hx rfl (hb hby d3_0) rfl rfl k) ?_
  show ownFin _ _ _ _ _ (T0.setTop (mkF m 1 #[.val (.ref a1), .val (.ref a2), .val (.ref a3)] [(.ref a1)]))
  refine ownCallN X0 hx hZ hown rfl (hw _ (List.mem_of_getElem? (i := 20) rfl)) (hw _ (List.mem_of_getElem? (i := 21) rfl)) (hw _ (List.mem_of_getElem? (i := 23) rfl)) (hw _ (List.mem_of_getElem? (i := 24) rfl)) (by decide) e0 (own_rec l Z a0 hw a1 h0 n0 Z0) (by rw [hml]; rfl) a1 [] [] (lenOf own_pd0 rfl) rfl rfl 0 rfl (hb hby d3_1) (by decide) (by decide) (by decide) (by decide) ?_
  intro v39 T39 L39 X39 hq39
  obtain ⟨rfl, N39q, eq39⟩ := hq39
  have N39 := Fr.app N0 N39q
  have e39 : T39.heap = h0 := eq39
  show ownFin _ _ _ _ _ (T39.setTop (mkF m 4 #[.val (.ref a1), .val (.ref a2), .val (.ref a3)] []))
  refine ownVia (fun _ k => XS.aloadN X39.here hx rfl (hb hby d3_4) rfl rfl k) ?_
  show ownFin _ _ _ _ _ (T39.setTop (mkF m 5 #[.val (.ref a1), .val (.ref a2), .val (.ref a3)] [(.ref a2)]))
  refine ownLdc X39 hx hZ hown (hw _ (List.mem_of_getElem? (i := 28) rfl)) (own_satoms hw) e39 hS hk (n := 16) (by decide) (by decide) (by decide) (by decide) (hb hby d3_5) ?_
  intro t0 T40 h40 X40 e40 E40 hZ hown hS hk2
  have F_a1_rank := F_a1_rank.ext E40
  have F_a1_suit := F_a1_suit.ext E40
  have E_a1 := E_a1.ext E40
  have K0 := K0.ext E40
  have Z0 := own_sz Z0 E40
  have hk := hk2
  show ownFin _ _ _ _ _ (T40.setTop (mkF m 7 #[.val (.ref a1), .val (.ref a2), .val (.ref a3)] [(.ref t0), (.ref a2)]))
  refine ownCallS X40 hx hZ hown (hw _ (List.mem_of_getElem? (i := 36) rfl)) (hw _ (List.mem_of_getElem? (i := 37) rfl)) (hw _ (List.mem_of_getElem? (i := 38) rfl)) (hw _ (List.mem_of_getElem? (i := 39) rfl)) (by decide) e40 (own_rnn l Z a0 hw a2 t0 h40 n0 Z0) (by rw [hml]; rfl) [(.ref a2), (.ref t0)] [] (lenOf own_pd1 rfl) rfl rfl 0 rfl (hb hby d3_7) (by decide) (by decide) (by decide) (by decide) ?_
  intro v41 T41 L41 X41 hq41
  obtain ⟨rfl, N41q, eq41⟩ := hq41
  have N41 := Fr.app N39 N41q
  have e41 : T41.heap = h40 := eq41
  show ownFin _ _ _ _ _ (T41.setTop (mkF m 10 #[.val (.ref a1), .val (.ref a2), .val (.ref a3)] [(.ref a2)]))
  refine ownVia (fun _ k => XS.pop X41.here hx rfl (hb hby d3_10) rfl rfl k) ?_
  show ownFin _ _ _ _ _ (T41.setTop (mkF m 11 #[.val (.ref a1), .val (.ref a2), .val (.ref a3)] []))
  refine ownVia (fun _ k => XS.aloadN X41.here hx rfl (hb hby d3_11) rfl rfl k) ?_
  show ownFin _ _ _ _ _ (T41.setTop (mkF m 12 #[.val (.ref a1), .val (.ref a2), .val (.ref a3)] [(.ref a3)]))
  refine ownLdc X41 hx hZ hown (hw _ (List.mem_of_getElem? (i := 40) rfl)) (own_satoms hw) e41 hS hk (n := 16) (by decide) (by decide) (by decide) (by decide) (hb hby d3_12) ?_
  intro t1 T42 h42 X42 e42 E42 hZ hown hS hk2
  have F_a1_rank := F_a1_rank.ext E42
  have F_a1_suit := F_a1_suit.ext E42
  have E_a1 := E_a1.ext E42
  have K0 := K0.ext E42
  have Z0 := own_sz Z0 E42
  have hk := hk2
  show ownFin _ _ _ _ _ (T42.setTop (mkF m 14 #[.val (.ref a1), .val (.ref a2), .val (.ref a3)] [(.ref t1), (.ref a3)]))
  refine ownCallS X42 hx hZ hown (hw _ (List.mem_of_getElem? (i := 36) rfl)) (hw _ (List.mem_of_getElem? (i := 37) rfl)) (hw _ (List.mem_of_getElem? (i := 38) rfl)) (hw _ (List.mem_of_getElem? (i := 39) rfl)) (by decide) e42 (own_rnn l Z a0 hw a3 t1 h42 n0 Z0) (by rw [hml]; rfl) [(.ref a3), (.ref t1)] [] (lenOf own_pd1 rfl) rfl rfl 0 rfl (hb hby d3_14) (by decide) (by decide) (by decide) (by decide) ?_
  intro v43 T43 L43 X43 hq43
  obtain ⟨rfl, N43q, eq43⟩ := hq43
  have N43 := Fr.app N41 N43q
  have e43 : T43.heap = h42 := eq43
  show ownFin _ _ _ _ _ (T43.setTop (mkF m 17 #[.val (.ref a1), .val (.ref a2), .val (.ref a3)] [(.ref a3)]))
  refine ownVia (fun _ k => XS.pop X43.here hx rfl (hb hby d3_17) rfl rfl k) ?_
  show ownFin _ _ _ _ _ (T43.setTop (mkF m 18 #[.val (.ref a1), .val (.ref a2), .val (.ref a3)] []))
  refine ownVia (fun _ k => XS.aloadN X43.here hx rfl (hb hby d3_18) rfl rfl k) ?_
  show ownFin _ _ _ _ _ (T43.setTop (mkF m 19 #[.val (.ref a1), .val (.ref a2), .val (.ref a3)] [(.ref a1)]))
  refine ownVia (fun _ k => XS.aloadN X43.here hx rfl (hb hby d3_19) rfl rfl k) ?_
  show ownFin _ _ _ _ _ (T43.setTop (mkF m 20 #[.val (.ref a1), .val (.ref a2), .val (.ref a3)] [(.ref a2), (.ref a1)]))
  obtain ⟨T44, h44, X44, e44, W44, st44⟩ := putF X43 hx hZ hown (host := "") (Or.inl (hw _ (List.mem_of_getElem? (i := 41) rfl))) Via.refl e43 F_a1_rank E_a1 (Or.inr ⟨(hw _ (List.mem_of_getElem? (i := 42) rfl)), rfl, hnm⟩) (hw _ (List.mem_of_getElem? (i := 2) rfl)) (ty := (.object "com/example/oubliette/oubliette/engine/Rank")) (by decide) rfl rfl (g := (mkF m 20 #[.val (.ref a1), .val (.ref a2), .val (.ref a3)] [(.ref a2), (.ref a1)])) rfl rfl (hb hby d3_20)
  have N44 := Fr.snoc X44 N43 ge_a1
  have F_a1_rank := F_a1_rank.same W44
  have F_a1_suit := F_a1_suit.other W44 (Or.inr (slot_ne (Or.inr (hw _ (List.mem_of_getElem? (i := 44) rfl))) (Or.inr (hw _ (List.mem_of_getElem? (i := 42) rfl))) (by decide) (t := (.object "com/example/oubliette/oubliette/engine/Suit")) (t' := (.object "com/example/oubliette/oubliette/engine/Rank")) (by decide) (by decide)))
  have E_a1 := E_a1.wr W44
  have K0 := K0.wr W44 (Or.inl (List.mem_of_getElem? (i := 0) rfl))
  have Z0 := own_szW Z0 W44
  have hk := own_szW hk W44
  refine ownVia st44 ?_
  show ownFin _ _ _ _ _ (T44.setTop (mkF m 23 #[.val (.ref a1), .val (.ref a2), .val (.ref a3)] []))
  refine ownVia (fun _ k => XS.aloadN X44.here hx rfl (hb hby d3_23) rfl rfl k) ?_
  show ownFin _ _ _ _ _ (T44.setTop (mkF m 24 #[.val (.ref a1), .val (.ref a2), .val (.ref a3)] [(.ref a1)]))
  refine ownVia (fun _ k => XS.aloadN X44.here hx rfl (hb hby d3_24) rfl rfl k) ?_
  show ownFin _ _ _ _ _ (T44.setTop (mkF m 25 #[.val (.ref a1), .val (.ref a2), .val (.ref a3)] [(.ref a3), (.ref a1)]))
  obtain ⟨T45, h45, X45, e45, W45, st45⟩ := putF X44 hx hZ hown (host := "") (Or.inl (hw _ (List.mem_of_getElem? (i := 43) rfl))) Via.refl e44 F_a1_suit E_a1 (Or.inr ⟨(hw _ (List.mem_of_getElem? (i := 44) rfl)), rfl, hnm⟩) (hw _ (List.mem_of_getElem? (i := 2) rfl)) (ty := (.object "com/example/oubliette/oubliette/engine/Suit")) (by decide) rfl rfl (g := (mkF m 25 #[.val (.ref a1), .val (.ref a2), .val (.ref a3)] [(.ref a3), (.ref a1)])) rfl rfl (hb hby d3_25)
  have N45 := Fr.snoc X45 N44 ge_a1
  have F_a1_suit := F_a1_suit.same W45
  have F_a1_rank := F_a1_rank.other W45 (Or.inr (slot_ne (Or.inr (hw _ (List.mem_of_getElem? (i := 42) rfl))) (Or.inr (hw _ (List.mem_of_getElem? (i := 44) rfl))) (by decide) (t := (.object "com/example/oubliette/oubliette/engine/Rank")) (t' := (.object "com/example/oubliette/oubliette/engine/Suit")) (by decide) (by decide)))
  have E_a1 := E_a1.wr W45
  have K0 := K0.wr W45 (Or.inl (List.mem_of_getElem? (i := 0) rfl))
  have Z0 := own_szW Z0 W45
  have hk := own_szW hk W45
  refine ownVia st45 ?_
  show ownFin _ _ _ _ _ (T45.setTop (mkF m 28 #[.val (.ref a1), .val (.ref a2), .val (.ref a3)] []))
  refine ownRetVW X45 hx hlk hS (by first | exact hk | (rw [e45]; exact hk)) hret (hb hby d3_28) (by decide) (by decide) ?_
  show (Q_own_init Z a1 a2 a3 h0 n0 ) none T45.heap _
  rw [e45]
  exact ⟨rfl, N45, K0, F_a1_rank, F_a1_suit⟩
theorem d8_0 : decode jdk_37_method_2_code 0 = .ok (.aload_n 0, 1) := by decide +kernel
theorem d8_1 : decode jdk_37_method_2_code 1 = .ok (.getfield 7, 3) := by decide +kernel
theorem d8_4 : decode jdk_37_method_2_code 4 = .ok (.ireturn, 1) := by decide +kernel
theorem own_pn4 : plainName "java/lang/Enum" = true := by first | (simp [plainName, overriddenIn]; done) | decide +kernel
theorem own_ef46 (m : MethodId) (a1 : Addr) : entryFrame m #[(.ref a1)] 1 = mkF m 0 #[.val (.ref a1)] [] := by first | (simp [entryFrame, mkF, argsToLocals, Value.category]; done) | rfl
def Q_own_ord (Z : State) (a1 : Addr) (h0 : Heap) (n0 : Nat) (k : Int32) : Option Value → Heap → List Loc → Prop := fun v h L => v = some (.int k) ∧ Fr n0 L ∧ h = h0
set_option maxRecDepth 65536 in
set_option maxHeartbeats 40000000 in
theorem own_ord (l : Launch) (Z : State) (a0 : Array Value) (hw : ∀ d ∈ tables_1, d.before a0 Z = true)  (a1 : Addr) (h0 : Heap) (n0 : Nat) (k : Int32) (Z0 : n0 ≤ h0.size) (F : Fld Z h0 a1 "java/lang/Enum" "ordinal" "I" (.int k)) :
    ownMet l Z (⟨"java/lang/Enum", "ordinal", "()I"⟩ : MethodName) jdk_37_method_2_code 1 (some .int) [] ({ frames := 0, cells := 0, slots := 0, locals := 0 } : Room) #[(.ref a1)] h0 (Q_own_ord Z a1 h0 n0 k) := by
  refine ownBody (plainFor_of_name own_pn4) ?_
  intro p e s m below meth c T0 hx hby hml hret hlk hZ hown hnm X0 e0
  have N0 : Fr n0 [] := Fr.nil n0
  refine ownVia (fun _ k => castTop (own_ef46 m a1) k) ?_
  show ownFin _ _ _ _ _ (T0.setTop (mkF m 0 #[.val (.ref a1)] []))
  refine ownVia (fun _ k => XS.aloadN X0.here hx rfl (hb hby d8_0) rfl rfl k) ?_
  show ownFin _ _ _ _ _ (T0.setTop (mkF m 1 #[.val (.ref a1)] [(.ref a1)]))
  obtain ⟨T47, X47, e47, st47⟩ := getF X0 hx hZ hown (host := "") (Or.inl (hw _ (List.mem_of_getElem? (i := 57) rfl))) Via.refl e0 F (g := (mkF m 1 #[.val (.ref a1)] [(.ref a1)])) rfl rfl (hb hby d8_1)
  refine ownVia st47 ?_
  show ownFin _ _ _ _ _ (T47.setTop (mkF m 4 #[.val (.ref a1)] [(.int k)]))
  refine ownRetI X47 hx hlk hret (hb hby d8_4) (by decide) (by decide) ?_
  show (Q_own_ord Z a1 h0 n0 k) (some (.int k)) T47.heap _
  rw [e47]
  exact ⟨rfl, N0, rfl⟩
theorem d7_0 : decode prog_3_method_4_code 0 = .ok (.aload_n 0, 1) := by decide +kernel
theorem d7_1 : decode prog_3_method_4_code 1 = .ok (.getfield 22, 3) := by decide +kernel
theorem d7_4 : decode prog_3_method_4_code 4 = .ok (.invokevirtual 74, 3) := by decide +kernel
theorem d7_7 : decode prog_3_method_4_code 7 = .ok (.getstatic 77, 3) := by decide +kernel
theorem d7_10 : decode prog_3_method_4_code 10 = .ok (.imul, 1) := by decide +kernel
theorem d7_11 : decode prog_3_method_4_code 11 = .ok (.aload_n 0, 1) := by decide +kernel
theorem d7_12 : decode prog_3_method_4_code 12 = .ok (.getfield 17, 3) := by decide +kernel
theorem d7_15 : decode prog_3_method_4_code 15 = .ok (.invokevirtual 81, 3) := by decide +kernel
theorem d7_18 : decode prog_3_method_4_code 18 = .ok (.iadd, 1) := by decide +kernel
theorem d7_19 : decode prog_3_method_4_code 19 = .ok (.ireturn, 1) := by decide +kernel
theorem own_ef48 (m : MethodId) (a1 : Addr) : entryFrame m #[(.ref a1)] 1 = mkF m 0 #[.val (.ref a1)] [] := by first | (simp [entryFrame, mkF, argsToLocals, Value.category]; done) | rfl
def Q_own_place (Z : State) (a1 : Addr) (h0 : Heap) (n0 : Nat) (r u : Addr) (kr ks : Int32) : Option Value → Heap → List Loc → Prop := fun v h L => v = some (.int ((ks * (13 : Int32)) + kr)) ∧ Fr n0 L ∧ h = h0
theorem own_pd2 : parseMethodDescriptor "()I" = some ⟨[], some .int⟩ := by decide +kernel
set_option maxRecDepth 65536 in
set_option maxHeartbeats 40000000 in
theorem own_place (l : Launch) (Z : State) (a0 : Array Value) (hw : ∀ d ∈ tables_1, d.before a0 Z = true)  (a1 : Addr) (h0 : Heap) (n0 : Nat) (r u : Addr) (kr ks : Int32) (Z0 : n0 ≤ h0.size) (F_r : Fld Z h0 a1 "com/example/oubliette/oubliette/engine/Card" "rank" "Lcom/example/oubliette/oubliette/engine/Rank;" (.ref r)) (F_s : Fld Z h0 a1 "com/example/oubliette/oubliette/engine/Card" "suit" "Lcom/example/oubliette/oubliette/engine/Suit;" (.ref u)) (E_r : Exa Z h0 r "com/example/oubliette/oubliette/engine/Rank") (E_u : Exa Z h0 u "com/example/oubliette/oubliette/engine/Suit") (O_r : Fld Z h0 r "java/lang/Enum" "ordinal" "I" (.int kr)) (O_s : Fld Z h0 u "java/lang/Enum" "ordinal" "I" (.int ks)) (S_n : Sta Z h0 "com/example/oubliette/oubliette/engine/Card" "RANKS" "I" (.int (13 : Int32))) :
    ownMet l Z (⟨"com/example/oubliette/oubliette/engine/Card", "place", "()I"⟩ : MethodName) prog_3_method_4_code 1 (some .int) [] ({ frames := 1, cells := 0, slots := 0, locals := 16 } : Room) #[(.ref a1)] h0 (Q_own_place Z a1 h0 n0 r u kr ks) := by
  refine ownBody (plainFor_of_name own_pn3) ?_
  intro p e s m below meth c T0 hx hby hml hret hlk hZ hown hnm X0 e0
  have N0 : Fr n0 [] := Fr.nil n0
  refine ownVia (fun _ k => castTop (own_ef48 m a1) k) ?_
  show ownFin _ _ _ _ _ (T0.setTop (mkF m 0 #[.val (.ref a1)] []))
  refine ownVia (fun _ k => XS.aloadN X0.here hx rfl (hb hby d7_0) rfl rfl k) ?_
  show ownFin _ _ _ _ _ (T0.setTop (mkF m 1 #[.val (.ref a1)] [(.ref a1)]))
  obtain ⟨T49, X49, e49, st49⟩ := getF X0 hx hZ hown (host := "") (Or.inl (hw _ (List.mem_of_getElem? (i := 43) rfl))) Via.refl e0 F_s (g := (mkF m 1 #[.val (.ref a1)] [(.ref a1)])) rfl rfl (hb hby d7_1)
  refine ownVia st49 ?_
  show ownFin _ _ _ _ _ (T49.setTop (mkF m 4 #[.val (.ref a1)] [(.ref u)]))
  refine ownCallU (owner := "java/lang/Enum") X49 hx hZ hown (hw _ (List.mem_of_getElem? (i := 50) rfl)) (hw _ (List.mem_of_getElem? (i := 51) rfl)) (hw _ (List.mem_of_getElem? (i := 52) rfl)) (by decide) (hw _ (List.mem_of_getElem? (i := 54) rfl)) (hw _ (List.mem_of_getElem? (i := 53) rfl)) (hw _ (List.mem_of_getElem? (i := 55) rfl)) (hw _ (List.mem_of_getElem? (i := 56) rfl)) e49 E_u (own_ord l Z a0 hw u h0 n0 ks Z0 O_s) (by rw [hml]; rfl) [] [] (lenOf own_pd2 rfl) rfl rfl 0 rfl (hb hby d7_4) (by decide) (by decide) (by decide) (by decide) ?_
  intro v50 T50 L50 X50 hq50
  obtain ⟨rfl, N50q, eq50⟩ := hq50
  have N50 := Fr.app N0 N50q
  have e50 : T50.heap = h0 := eq50
  show ownFin _ _ _ _ _ (T50.setTop (mkF m 7 #[.val (.ref a1)] [(.int ks)]))
  obtain ⟨T51, X51, e51, st51⟩ := getS2 X50 hx hZ hown (host := "") (Or.inl (hw _ (List.mem_of_getElem? (i := 59) rfl))) Via.refl e50 S_n (g := (mkF m 7 #[.val (.ref a1)] [(.int ks)])) rfl (hb hby d7_7)
  refine ownVia st51 ?_
  show ownFin _ _ _ _ _ (T51.setTop (mkF m 10 #[.val (.ref a1)] [(.int (13 : Int32)), (.int ks)]))
  refine ownVia (fun _ k => XS.imul X51.here hx rfl (hb hby d7_10) rfl k) ?_
  show ownFin _ _ _ _ _ (T51.setTop (mkF m 11 #[.val (.ref a1)] [(.int (ks * (13 : Int32)))]))
  refine ownVia (fun _ k => XS.aloadN X51.here hx rfl (hb hby d7_11) rfl rfl k) ?_
  show ownFin _ _ _ _ _ (T51.setTop (mkF m 12 #[.val (.ref a1)] [(.ref a1), (.int (ks * (13 : Int32)))]))
  obtain ⟨T52, X52, e52, st52⟩ := getF X51 hx hZ hown (host := "") (Or.inl (hw _ (List.mem_of_getElem? (i := 41) rfl))) Via.refl e51 F_r (g := (mkF m 12 #[.val (.ref a1)] [(.ref a1), (.int (ks * (13 : Int32)))])) rfl rfl (hb hby d7_12)
  refine ownVia st52 ?_
  show ownFin _ _ _ _ _ (T52.setTop (mkF m 15 #[.val (.ref a1)] [(.ref r), (.int (ks * (13 : Int32)))]))
  refine ownCallU (owner := "java/lang/Enum") X52 hx hZ hown (hw _ (List.mem_of_getElem? (i := 61) rfl)) (hw _ (List.mem_of_getElem? (i := 62) rfl)) (hw _ (List.mem_of_getElem? (i := 52) rfl)) (by decide) (hw _ (List.mem_of_getElem? (i := 63) rfl)) (hw _ (List.mem_of_getElem? (i := 53) rfl)) (hw _ (List.mem_of_getElem? (i := 55) rfl)) (hw _ (List.mem_of_getElem? (i := 56) rfl)) e52 E_r (own_ord l Z a0 hw r h0 n0 kr Z0 O_r) (by rw [hml]; rfl) [] [(.int (ks * (13 : Int32)))] (lenOf own_pd2 rfl) rfl rfl 1 rfl (hb hby d7_15) (by decide) (by decide) (by decide) (by decide) ?_
  intro v53 T53 L53 X53 hq53
  obtain ⟨rfl, N53q, eq53⟩ := hq53
  have N53 := Fr.app N50 N53q
  have e53 : T53.heap = h0 := eq53
  show ownFin _ _ _ _ _ (T53.setTop (mkF m 18 #[.val (.ref a1)] [(.int kr), (.int (ks * (13 : Int32)))]))
  refine ownVia (fun _ k => XS.iadd X53.here hx rfl (hb hby d7_18) rfl k) ?_
  show ownFin _ _ _ _ _ (T53.setTop (mkF m 19 #[.val (.ref a1)] [(.int ((ks * (13 : Int32)) + kr))]))
  refine ownRetI X53 hx hlk hret (hb hby d7_19) (by decide) (by decide) ?_
  show (Q_own_place Z a1 h0 n0 r u kr ks) (some (.int ((ks * (13 : Int32)) + kr))) T53.heap _
  rw [e53]
  exact ⟨rfl, N53, rfl⟩
theorem own_ef54 (m : MethodId) (p1 : Int32) (p2 : Int32) : entryFrame m #[(.int p1), (.int p2)] maxLocals = mkF m 0 #[.val (.int p1), .val (.int p2), .unset, .unset, .unset, .unset] [] := by first | (simp [entryFrame, mkF, argsToLocals, Value.category, maxLocals]; done) | rfl
def Q_own_law (Z : State) (p1 : Int32) (p2 : Int32) (h0 : Heap) (n0 : Nat)  : Option Value → Heap → List Loc → Prop := fun v h L => v = some (.int 1) ∧ Fr n0 L
theorem own_pd3 : parseMethodDescriptor "(I)Lcom/example/oubliette/oubliette/engine/Rank;" = some ⟨[.int], some (.object "com/example/oubliette/oubliette/engine/Rank")⟩ := by decide +kernel
theorem own_pd4 : parseMethodDescriptor "(I)Lcom/example/oubliette/oubliette/engine/Suit;" = some ⟨[.int], some (.object "com/example/oubliette/oubliette/engine/Suit")⟩ := by decide +kernel
theorem own_pd5 : parseMethodDescriptor "(Lcom/example/oubliette/oubliette/engine/Rank;Lcom/example/oubliette/oubliette/engine/Suit;)V" = some ⟨[(.object "com/example/oubliette/oubliette/engine/Rank"), (.object "com/example/oubliette/oubliette/engine/Suit")], none⟩ := by decide +kernel
set_option maxRecDepth 65536 in
set_option maxHeartbeats 40000000 in
theorem own_law (l : Launch) (Z : State) (a0 : Array Value) (hw : ∀ d ∈ tables_1, d.before a0 Z = true) (ws : List Jvm.Cond) (p1 : Int32) (p2 : Int32) (h0 : Heap) (n0 : Nat)  (Z0 : n0 ≤ h0.size) (O : Old Z n0 h0) (S_n : Sta Z Z.heap "com/example/oubliette/oubliette/engine/Card" "RANKS" "I" (.int (13 : Int32))) (r0 : own_E Z Z.heap "com/example/oubliette/oubliette/engine/Rank" "Lcom/example/oubliette/oubliette/engine/Rank;" "TWO" (0 : Int32)) (r1 : own_E Z Z.heap "com/example/oubliette/oubliette/engine/Rank" "Lcom/example/oubliette/oubliette/engine/Rank;" "THREE" (1 : Int32)) (r2 : own_E Z Z.heap "com/example/oubliette/oubliette/engine/Rank" "Lcom/example/oubliette/oubliette/engine/Rank;" "FOUR" (2 : Int32)) (r3 : own_E Z Z.heap "com/example/oubliette/oubliette/engine/Rank" "Lcom/example/oubliette/oubliette/engine/Rank;" "FIVE" (3 : Int32)) (r4 : own_E Z Z.heap "com/example/oubliette/oubliette/engine/Rank" "Lcom/example/oubliette/oubliette/engine/Rank;" "SIX" (4 : Int32)) (r5 : own_E Z Z.heap "com/example/oubliette/oubliette/engine/Rank" "Lcom/example/oubliette/oubliette/engine/Rank;" "SEVEN" (5 : Int32)) (r6 : own_E Z Z.heap "com/example/oubliette/oubliette/engine/Rank" "Lcom/example/oubliette/oubliette/engine/Rank;" "EIGHT" (6 : Int32)) (r7 : own_E Z Z.heap "com/example/oubliette/oubliette/engine/Rank" "Lcom/example/oubliette/oubliette/engine/Rank;" "NINE" (7 : Int32)) (r8 : own_E Z Z.heap "com/example/oubliette/oubliette/engine/Rank" "Lcom/example/oubliette/oubliette/engine/Rank;" "TEN" (8 : Int32)) (r9 : own_E Z Z.heap "com/example/oubliette/oubliette/engine/Rank" "Lcom/example/oubliette/oubliette/engine/Rank;" "JACK" (9 : Int32)) (r10 : own_E Z Z.heap "com/example/oubliette/oubliette/engine/Rank" "Lcom/example/oubliette/oubliette/engine/Rank;" "QUEEN" (10 : Int32)) (r11 : own_E Z Z.heap "com/example/oubliette/oubliette/engine/Rank" "Lcom/example/oubliette/oubliette/engine/Rank;" "KING" (11 : Int32)) (r12 : own_E Z Z.heap "com/example/oubliette/oubliette/engine/Rank" "Lcom/example/oubliette/oubliette/engine/Rank;" "ACE" (12 : Int32)) (u0 : own_E Z Z.heap "com/example/oubliette/oubliette/engine/Suit" "Lcom/example/oubliette/oubliette/engine/Suit;" "CLUBS" (0 : Int32)) (u1 : own_E Z Z.heap "com/example/oubliette/oubliette/engine/Suit" "Lcom/example/oubliette/oubliette/engine/Suit;" "DIAMONDS" (1 : Int32)) (u2 : own_E Z Z.heap "com/example/oubliette/oubliette/engine/Suit" "Lcom/example/oubliette/oubliette/engine/Suit;" "HEARTS" (2 : Int32)) (u3 : own_E Z Z.heap "com/example/oubliette/oubliette/engine/Suit" "Lcom/example/oubliette/oubliette/engine/Suit;" "SPADES" (3 : Int32)) :
    ownMetW l Z x code maxLocals ret ws room_1 #[(.int p1), (.int p2)] h0 (Q_own_law Z p1 p2 h0 n0 ) := by
  refine ownBodyW (plainFor_of_name own_pn0) ?_
  intro p e s m below meth c T0 hx hby hml hret hlk hZ hown hnm X0 e0
  have N0 : Fr n0 [] := Fr.nil n0
  have hown : s.vm.findClass "com/example/oubliette/oubliette/engine/CardPlacePinLaw" = some m.cls := hown
  refine ownVia (fun _ k => castTop (own_ef54 m p1 p2) k) ?_
  show ownFin _ _ _ _ _ (T0.setTop (mkF m 0 #[.val (.int p1), .val (.int p2), .unset, .unset, .unset, .unset] []))
  have h13 := own_r13 p1
  have h4 := own_s4 p2
  refine ownVia (fun _ k => XS.iloadN X0.here hx rfl (hb hby at_0) rfl k) ?_
  show ownFin _ _ _ _ _ (T0.setTop (mkF m 1 #[.val (.int p1), .val (.int p2), .unset, .unset, .unset, .unset] [(.int p1)]))
  refine ownVia (fun _ k => X0.ldcInt hx hown (mvT hZ (hw _ (List.mem_of_getElem? (i := 0) rfl))) (g := (mkF m 1 #[.val (.int p1), .val (.int p2), .unset, .unset, .unset, .unset] [(.int p1)])) rfl (hb hby at_1) _ k) ?_
  show ownFin _ _ _ _ _ (T0.setTop (mkF m 3 #[.val (.int p1), .val (.int p2), .unset, .unset, .unset, .unset] [(.int (2147483647 : Int32)), (.int p1)]))
  refine ownVia (fun _ k => XS.iand X0.here hx rfl (hb hby at_3) rfl k) ?_
  show ownFin _ _ _ _ _ (T0.setTop (mkF m 4 #[.val (.int p1), .val (.int p2), .unset, .unset, .unset, .unset] [(.int (p1 &&& (2147483647 : Int32)))]))
  refine ownVia (fun _ k => XS.bipush X0.here hx rfl (hb hby at_4) k) ?_
  show ownFin _ _ _ _ _ (T0.setTop (mkF m 6 #[.val (.int p1), .val (.int p2), .unset, .unset, .unset, .unset] [(.int (13 : Int32)), (.int (p1 &&& (2147483647 : Int32)))]))
  refine ownVia (fun _ k => iremM X0 hx rfl (hb hby at_6) rfl (by decide) k) ?_
  show ownFin _ _ _ _ _ (T0.setTop (mkF m 7 #[.val (.int p1), .val (.int p2), .unset, .unset, .unset, .unset] [(.int ((p1 &&& (2147483647 : Int32)) % (13 : Int32)))]))
  refine ownVia (fun _ k => XS.istoreN X0.here hx rfl (hb hby at_7) rfl (l' := #[.val (.int p1), .val (.int p2), .val (.int ((p1 &&& (2147483647 : Int32)) % (13 : Int32))), .unset, .unset, .unset]) rfl k) ?_
  show ownFin _ _ _ _ _ (T0.setTop (mkF m 8 #[.val (.int p1), .val (.int p2), .val (.int ((p1 &&& (2147483647 : Int32)) % (13 : Int32))), .unset, .unset, .unset] []))
  refine ownVia (fun _ k => XS.iloadN X0.here hx rfl (hb hby at_8) rfl k) ?_
  show ownFin _ _ _ _ _ (T0.setTop (mkF m 9 #[.val (.int p1), .val (.int p2), .val (.int ((p1 &&& (2147483647 : Int32)) % (13 : Int32))), .unset, .unset, .unset] [(.int p2)]))
  refine ownVia (fun _ k => XS.iconst X0.here hx rfl (hb hby at_9) k) ?_
  show ownFin _ _ _ _ _ (T0.setTop (mkF m 10 #[.val (.int p1), .val (.int p2), .val (.int ((p1 &&& (2147483647 : Int32)) % (13 : Int32))), .unset, .unset, .unset] [(.int (3 : Int32)), (.int p2)]))
  refine ownVia (fun _ k => XS.iand X0.here hx rfl (hb hby at_10) rfl k) ?_
  show ownFin _ _ _ _ _ (T0.setTop (mkF m 11 #[.val (.int p1), .val (.int p2), .val (.int ((p1 &&& (2147483647 : Int32)) % (13 : Int32))), .unset, .unset, .unset] [(.int (p2 &&& (3 : Int32)))]))
  refine ownVia (fun _ k => XS.istoreN X0.here hx rfl (hb hby at_11) rfl (l' := #[.val (.int p1), .val (.int p2), .val (.int ((p1 &&& (2147483647 : Int32)) % (13 : Int32))), .val (.int (p2 &&& (3 : Int32))), .unset, .unset]) rfl k) ?_
  show ownFin _ _ _ _ _ (T0.setTop (mkF m 12 #[.val (.int p1), .val (.int p2), .val (.int ((p1 &&& (2147483647 : Int32)) % (13 : Int32))), .val (.int (p2 &&& (3 : Int32))), .unset, .unset] []))
  generalize h_rv : ((p1 &&& (2147483647 : Int32)) % (13 : Int32)) = rv
  show ownFin _ _ _ _ _ (T0.setTop (mkF m 12 #[.val (.int p1), .val (.int p2), .val (.int rv), .val (.int (p2 &&& (3 : Int32))), .unset, .unset] []))
  generalize h_sv : (p2 &&& (3 : Int32)) = sv
  show ownFin _ _ _ _ _ (T0.setTop (mkF m 12 #[.val (.int p1), .val (.int p2), .val (.int rv), .val (.int sv), .unset, .unset] []))
  rw [h_rv] at h13
  rw [h_sv] at h4
  obtain ⟨T55, h55, X55, e55, E55, A55, D55, -, st55⟩ := newO X0 hx hZ hown (hw _ (List.mem_of_getElem? (i := 1) rfl)) (hw _ (List.mem_of_getElem? (i := 2) rfl)) (hw _ (List.mem_of_getElem? (i := 3) rfl)) e0 (g := (mkF m 12 #[.val (.int p1), .val (.int p2), .val (.int rv), .val (.int sv), .unset, .unset] [])) rfl (hb hby at_12) (by decide) (by decide)
  obtain ⟨b1, g55⟩ : ∃ z, z = h0.size := ⟨_, rfl⟩
  rw [← g55] at A55 D55 st55
  have ge_b1 : n0 ≤ b1 := Nat.le_trans Z0 (Nat.le_of_eq g55.symm)
  have O := O.ext E55
  have Z0 := own_sz Z0 E55
  have E_b1 := A55
  have F_b1_rank : Fld Z h55 b1 "com/example/oubliette/oubliette/engine/Card" "rank" "Lcom/example/oubliette/oubliette/engine/Rank;" .null := D55 (Or.inr (hw _ (List.mem_of_getElem? (i := 42) rfl))) (ty := (.object "com/example/oubliette/oubliette/engine/Rank")) (by decide)
  have F_b1_suit : Fld Z h55 b1 "com/example/oubliette/oubliette/engine/Card" "suit" "Lcom/example/oubliette/oubliette/engine/Suit;" .null := D55 (Or.inr (hw _ (List.mem_of_getElem? (i := 44) rfl))) (ty := (.object "com/example/oubliette/oubliette/engine/Suit")) (by decide)
  refine ownVia st55 ?_
  show ownFin _ _ _ _ _ (T55.setTop (mkF m 15 #[.val (.int p1), .val (.int p2), .val (.int rv), .val (.int sv), .unset, .unset] [(.ref b1)]))
  refine ownVia (fun _ k => XS.dup X55.here hx rfl (hb hby at_15) rfl rfl k) ?_
  show ownFin _ _ _ _ _ (T55.setTop (mkF m 16 #[.val (.int p1), .val (.int p2), .val (.int rv), .val (.int sv), .unset, .unset] [(.ref b1), (.ref b1)]))
  refine ownVia (fun _ k => XS.iloadN X55.here hx rfl (hb hby at_16) rfl k) ?_
  show ownFin _ _ _ _ _ (T55.setTop (mkF m 17 #[.val (.int p1), .val (.int p2), .val (.int rv), .val (.int sv), .unset, .unset] [(.int rv), (.ref b1), (.ref b1)]))
  refine ownCallS X55 hx hZ hown (hw _ (List.mem_of_getElem? (i := 4) rfl)) (hw _ (List.mem_of_getElem? (i := 5) rfl)) (hw _ (List.mem_of_getElem? (i := 6) rfl)) (hw _ (List.mem_of_getElem? (i := 7) rfl)) (by decide) e55 (own_rank l Z a0 hw rv h55 n0 Z0 (own_E_ext O.2 r0) (own_E_ext O.2 r1) (own_E_ext O.2 r2) (own_E_ext O.2 r3) (own_E_ext O.2 r4) (own_E_ext O.2 r5) (own_E_ext O.2 r6) (own_E_ext O.2 r7) (own_E_ext O.2 r8) (own_E_ext O.2 r9) (own_E_ext O.2 r10) (own_E_ext O.2 r11) (own_E_ext O.2 r12) h13) (by rw [hml]; rfl) [(.int rv)] [(.ref b1), (.ref b1)] (lenOf own_pd3 rfl) rfl rfl 2 rfl (hb hby at_17) (by decide) (by decide) (by decide) (by decide) ?_
  intro v56 T56 L56 X56 hq56
  obtain ⟨r, rfl, N56q, eq56, E_r, O_r⟩ := hq56
  have N56 := Fr.app N0 N56q
  have e56 : T56.heap = h55 := eq56
  show ownFin _ _ _ _ _ (T56.setTop (mkF m 20 #[.val (.int p1), .val (.int p2), .val (.int rv), .val (.int sv), .unset, .unset] [(.ref r), (.ref b1), (.ref b1)]))
  refine ownVia (fun _ k => XS.iloadN X56.here hx rfl (hb hby at_20) rfl k) ?_
  show ownFin _ _ _ _ _ (T56.setTop (mkF m 21 #[.val (.int p1), .val (.int p2), .val (.int rv), .val (.int sv), .unset, .unset] [(.int sv), (.ref r), (.ref b1), (.ref b1)]))
  refine ownCallS X56 hx hZ hown (hw _ (List.mem_of_getElem? (i := 11) rfl)) (hw _ (List.mem_of_getElem? (i := 12) rfl)) (hw _ (List.mem_of_getElem? (i := 6) rfl)) (hw _ (List.mem_of_getElem? (i := 13) rfl)) (by decide) e56 (own_suit l Z a0 hw sv h55 n0 Z0 (own_E_ext O.2 u0) (own_E_ext O.2 u1) (own_E_ext O.2 u2) (own_E_ext O.2 u3) h4) (by rw [hml]; rfl) [(.int sv)] [(.ref r), (.ref b1), (.ref b1)] (lenOf own_pd4 rfl) rfl rfl 3 rfl (hb hby at_21) (by decide) (by decide) (by decide) (by decide) ?_
  intro v57 T57 L57 X57 hq57
  obtain ⟨u, rfl, N57q, eq57, E_u, O_s⟩ := hq57
  have N57 := Fr.app N56 N57q
  have e57 : T57.heap = h55 := eq57
  show ownFin _ _ _ _ _ (T57.setTop (mkF m 24 #[.val (.int p1), .val (.int p2), .val (.int rv), .val (.int sv), .unset, .unset] [(.ref u), (.ref r), (.ref b1), (.ref b1)]))
  have ne_r_b1 : r ≠ b1 := ne_exa E_r E_b1 (by decide)
  have ne_u_b1 : u ≠ b1 := ne_exa E_u E_b1 (by decide)
  refine ownCallNW X57 hx hZ hown rfl (hw _ (List.mem_of_getElem? (i := 17) rfl)) (hw _ (List.mem_of_getElem? (i := 18) rfl)) (hw _ (List.mem_of_getElem? (i := 3) rfl)) (hw _ (List.mem_of_getElem? (i := 19) rfl)) (by decide) e57 (own_init l Z a0 hw b1 r u h55 n0 Z0 F_b1_rank F_b1_suit E_b1 ge_b1) (by rw [hml]; rfl) b1 [(.ref r), (.ref u)] [(.ref b1)] (lenOf own_pd5 rfl) rfl rfl 1 rfl (hb hby at_24) (by decide) (by decide) (by decide) (by decide) ?_
  intro v58 T58 L58 X58 hq58 hZ hown hS hk
  obtain ⟨rfl, N58q, K58, F_b1_rank, F_b1_suit⟩ := hq58
  have E_b1 := E_b1.keep K58
  have E_r := E_r.keep K58
  have E_u := E_u.keep K58
  have O_r := O_r.keep K58 (ninS ne_r_b1 nin0)
  have O_s := O_s.keep K58 (ninS ne_u_b1 nin0)
  have Z0 := Nat.le_trans Z0 K58.1
  have O := O.keep K58 (allS ge_b1 all0)
  have N58 := Fr.app N57 N58q
  show ownFin _ _ _ _ _ (T58.setTop (mkF m 27 #[.val (.int p1), .val (.int p2), .val (.int rv), .val (.int sv), .unset, .unset] [(.ref b1)]))
  refine ownVia (fun _ k => XS.astore X58.here hx rfl (hb hby at_27) rfl rfl (l' := #[.val (.int p1), .val (.int p2), .val (.int rv), .val (.int sv), .val (.ref b1), .unset]) rfl k) ?_
  show ownFin _ _ _ _ _ (T58.setTop (mkF m 29 #[.val (.int p1), .val (.int p2), .val (.int rv), .val (.int sv), .val (.ref b1), .unset] []))
  refine ownVia (fun _ k => XS.aload X58.here hx rfl (hb hby at_29) rfl rfl k) ?_
  show ownFin _ _ _ _ _ (T58.setTop (mkF m 31 #[.val (.int p1), .val (.int p2), .val (.int rv), .val (.int sv), .val (.ref b1), .unset] [(.ref b1)]))
  refine ownCallV X58 hx hZ hown (hw _ (List.mem_of_getElem? (i := 45) rfl)) (hw _ (List.mem_of_getElem? (i := 46) rfl)) (hw _ (List.mem_of_getElem? (i := 48) rfl)) (hw _ (List.mem_of_getElem? (i := 48) rfl)) (hw _ (List.mem_of_getElem? (i := 47) rfl)) (hw _ (List.mem_of_getElem? (i := 3) rfl)) (hw _ (List.mem_of_getElem? (i := 49) rfl)) (by decide) (rfl : T58.heap = T58.heap) E_b1 (own_place l Z a0 hw b1 T58.heap n0 r u rv sv Z0 F_b1_rank F_b1_suit E_r E_u O_r O_s (S_n.ext O.2)) (by rw [hml]; rfl) [] [] (lenOf own_pd2 rfl) rfl rfl 0 rfl (hb hby at_31) (by decide) (by decide) (by decide) (by decide) ?_
  intro v59 T59 L59 X59 hq59
  obtain ⟨rfl, N59q, eq59⟩ := hq59
  have N59 := Fr.app N58 N59q
  have e59 : T59.heap = T58.heap := eq59
  show ownFin _ _ _ _ _ (T59.setTop (mkF m 34 #[.val (.int p1), .val (.int p2), .val (.int rv), .val (.int sv), .val (.ref b1), .unset] [(.int ((sv * (13 : Int32)) + rv))]))
  refine ownVia (fun _ k => XS.istore X59.here hx rfl (hb hby at_34) rfl (l' := #[.val (.int p1), .val (.int p2), .val (.int rv), .val (.int sv), .val (.ref b1), .val (.int ((sv * (13 : Int32)) + rv))]) rfl k) ?_
  show ownFin _ _ _ _ _ (T59.setTop (mkF m 36 #[.val (.int p1), .val (.int p2), .val (.int rv), .val (.int sv), .val (.ref b1), .val (.int ((sv * (13 : Int32)) + rv))] []))
  refine ownVia (fun _ k => XS.iload X59.here hx rfl (hb hby at_36) rfl k) ?_
  show ownFin _ _ _ _ _ (T59.setTop (mkF m 38 #[.val (.int p1), .val (.int p2), .val (.int rv), .val (.int sv), .val (.ref b1), .val (.int ((sv * (13 : Int32)) + rv))] [(.int ((sv * (13 : Int32)) + rv))]))
  refine ownVia (fun _ k => XS.iloadN X59.here hx rfl (hb hby at_38) rfl k) ?_
  show ownFin _ _ _ _ _ (T59.setTop (mkF m 39 #[.val (.int p1), .val (.int p2), .val (.int rv), .val (.int sv), .val (.ref b1), .val (.int ((sv * (13 : Int32)) + rv))] [(.int sv), (.int ((sv * (13 : Int32)) + rv))]))
  refine ownVia (fun _ k => XS.bipush X59.here hx rfl (hb hby at_39) k) ?_
  show ownFin _ _ _ _ _ (T59.setTop (mkF m 41 #[.val (.int p1), .val (.int p2), .val (.int rv), .val (.int sv), .val (.ref b1), .val (.int ((sv * (13 : Int32)) + rv))] [(.int (13 : Int32)), (.int sv), (.int ((sv * (13 : Int32)) + rv))]))
  refine ownVia (fun _ k => XS.imul X59.here hx rfl (hb hby at_41) rfl k) ?_
  show ownFin _ _ _ _ _ (T59.setTop (mkF m 42 #[.val (.int p1), .val (.int p2), .val (.int rv), .val (.int sv), .val (.ref b1), .val (.int ((sv * (13 : Int32)) + rv))] [(.int (sv * (13 : Int32))), (.int ((sv * (13 : Int32)) + rv))]))
  refine ownVia (fun _ k => XS.iloadN X59.here hx rfl (hb hby at_42) rfl k) ?_
  show ownFin _ _ _ _ _ (T59.setTop (mkF m 43 #[.val (.int p1), .val (.int p2), .val (.int rv), .val (.int sv), .val (.ref b1), .val (.int ((sv * (13 : Int32)) + rv))] [(.int rv), (.int (sv * (13 : Int32))), (.int ((sv * (13 : Int32)) + rv))]))
  refine ownVia (fun _ k => XS.iadd X59.here hx rfl (hb hby at_43) rfl k) ?_
  show ownFin _ _ _ _ _ (T59.setTop (mkF m 44 #[.val (.int p1), .val (.int p2), .val (.int rv), .val (.int sv), .val (.ref b1), .val (.int ((sv * (13 : Int32)) + rv))] [(.int ((sv * (13 : Int32)) + rv)), (.int ((sv * (13 : Int32)) + rv))]))
  refine ownVia (fun _ k => XS.icmpNo X59.here hx rfl (hb hby at_44) rfl (teq rfl).2 k) ?_
  show ownFin _ _ _ _ _ (T59.setTop (mkF m 47 #[.val (.int p1), .val (.int p2), .val (.int rv), .val (.int sv), .val (.ref b1), .val (.int ((sv * (13 : Int32)) + rv))] []))
  refine ownVia (fun _ k => XS.iconst X59.here hx rfl (hb hby at_47) k) ?_
  show ownFin _ _ _ _ _ (T59.setTop (mkF m 48 #[.val (.int p1), .val (.int p2), .val (.int rv), .val (.int sv), .val (.ref b1), .val (.int ((sv * (13 : Int32)) + rv))] [(.int (1 : Int32))]))
  refine ownVia (fun _ k => XS.goto X59.here hx rfl (pc0 := 48) (pc' := 52) rfl (hb hby at_48) (by decide) (by decide) k) ?_
  show ownFin _ _ _ _ _ (T59.setTop (mkF m 52 #[.val (.int p1), .val (.int p2), .val (.int rv), .val (.int sv), .val (.ref b1), .val (.int ((sv * (13 : Int32)) + rv))] [(.int (1 : Int32))]))
  refine ownRetZW X59 hx hlk hS (by first | exact hk | (rw [e59]; exact hk)) hret (hb hby at_52) (by decide) (by decide) (Or.inr rfl) ?_
  show (Q_own_law Z p1 p2 h0 n0 ) (some (.int (1 : Int32))) T59.heap _
  rw [e59]
  exact ⟨rfl, N59⟩
set_option maxRecDepth 65536 in
set_option maxHeartbeats 40000000 in
theorem own_comes {Post : Tables → Env → Array Value → State → Outcome → State → Prop} (hpost : ∀ tb e args s v u, (limb_1_1.after args s (.returned v) u = true ∧ limb_1_2.after args s (.returned v) u = true ∧ True) → ReturnedEndW s (.returned v) u (Jvm.fieldLocs frame_1_writes args s ++ Jvm.arrayLocs frame_1_arrays args s ++ Jvm.staticLocs frame_1_statics s) 16 2176 → Post tb e args s (.returned v) u) :
    ArmFor flags0 classFile x code maxLocals ret World_1 tables_1 room_1 Calls_1 rest_1 Pre_1 Post := by
  intro l hfl _ _ p e ha hc hk s m args below hf hA hF happ hP
  obtain ⟨hcalls, hrest, hpre⟩ := hP
  obtain ⟨-, -, -, hnamed, -, -, -, hat⟩ := (Spec.applies_iff hf).mp happ
  obtain ⟨hg, hn⟩ := and_e (Cond.before_iff.mp (show (Jvm.Cond.and given_1 narrow_1).before args s = true from hpre))
  obtain ⟨hcount, hg0⟩ := and_e hg
  obtain ⟨w0, w1, rfl⟩ : ∃ w0 w1 : Value, args = #[w0, w1] := by
    have hs : args.size = 2 := by simpa [Cond.value, given_1] using hcount
    obtain ⟨L⟩ := args
    match L, hs with
    | [w0, w1], _ => exact ⟨w0, w1, rfl⟩
  have hw := fun d (hd : d ∈ tables_1) => atoms_spec (ws := Jvm.Cond.code x code maxLocals ret :: tables_1) hat d (List.mem_cons_of_mem _ hd)
  have hfit : Fit s := fun {y c} hc i hi => by
    obtain ⟨ha, rfl⟩ := Array.getElem?_eq_some_iff.mp hc
    have q := List.all_eq_true.mp ((Array.all_eq_true_iff_forall_mem.mp hF) _ (Array.getElem_mem ha)) i (List.mem_range.mpr hi)
    simpa [Array.getElem?_eq_getElem hi] using q
  obtain ⟨hq0, hg1⟩ := and_e hg0
  obtain ⟨i0, ei0⟩ := is_v hq0
  obtain rfl : w0 = (.int i0) := Option.some.inj ei0
  obtain ⟨i1, ei1⟩ := is_v hg1
  obtain rfl : w1 = (.int i1) := Option.some.inj ei1
  obtain ⟨m0, n0⟩ := and_e hn
  obtain ⟨m1, n1⟩ := and_e n0
  obtain ⟨m2, n2⟩ := and_e n1
  obtain ⟨m3, n3⟩ := and_e n2
  obtain ⟨m4, n4⟩ := and_e n3
  obtain ⟨m5, n5⟩ := and_e n4
  obtain ⟨m6, n6⟩ := and_e n5
  obtain ⟨m7, n7⟩ := and_e n6
  obtain ⟨m8, n8⟩ := and_e n7
  obtain ⟨m9, n9⟩ := and_e n8
  obtain ⟨m10, n10⟩ := and_e n9
  obtain ⟨m11, n11⟩ := and_e n10
  obtain ⟨m12, n12⟩ := and_e n11
  obtain ⟨m13, n13⟩ := and_e n12
  obtain ⟨m14, n14⟩ := and_e n13
  obtain ⟨m15, n15⟩ := and_e n14
  obtain ⟨m16, n16⟩ := and_e n15
  obtain ⟨m17, n17⟩ := and_e n16
  obtain ⟨m18, n18⟩ := and_e n17
  obtain ⟨m19, n19⟩ := and_e n18
  obtain ⟨m20, n20⟩ := and_e n19
  obtain ⟨m21, n21⟩ := and_e n20
  obtain ⟨m22, n22⟩ := and_e n21
  obtain ⟨m23, n23⟩ := and_e n22
  obtain ⟨m24, n24⟩ := and_e n23
  obtain ⟨m25, n25⟩ := and_e n24
  obtain ⟨m26, n26⟩ := and_e n25
  obtain ⟨m27, n27⟩ := and_e n26
  obtain ⟨m28, n28⟩ := and_e n27
  obtain ⟨m29, n29⟩ := and_e n28
  obtain ⟨m30, n30⟩ := and_e n29
  obtain ⟨m31, n31⟩ := and_e n30
  obtain ⟨m32, n32⟩ := and_e n31
  obtain ⟨m33, n33⟩ := and_e n32
  have S_n := Sta.start (own_eqv m3) (Or.inr ⟨(hw _ (List.mem_of_getElem? (i := 3) rfl)), (hw _ (List.mem_of_getElem? (i := 60) rfl))⟩)
  have r0 : own_E s s.heap "com/example/oubliette/oubliette/engine/Rank" "Lcom/example/oubliette/oubliette/engine/Rank;" "TWO" (0 : Int32) := by obtain ⟨a, ev, S, E⟩ := own_enum m0 (hw _ (List.mem_of_getElem? (i := 9) rfl)) (hw _ (List.mem_of_getElem? (i := 10) rfl)); exact ⟨a, S, E, own_efld ev m4⟩
  have r1 : own_E s s.heap "com/example/oubliette/oubliette/engine/Rank" "Lcom/example/oubliette/oubliette/engine/Rank;" "THREE" (1 : Int32) := by obtain ⟨a, ev, S, E⟩ := own_enum m5 (hw _ (List.mem_of_getElem? (i := 9) rfl)) (hw _ (List.mem_of_getElem? (i := 66) rfl)); exact ⟨a, S, E, own_efld ev m8⟩
  have r2 : own_E s s.heap "com/example/oubliette/oubliette/engine/Rank" "Lcom/example/oubliette/oubliette/engine/Rank;" "FOUR" (2 : Int32) := by obtain ⟨a, ev, S, E⟩ := own_enum m25 (hw _ (List.mem_of_getElem? (i := 9) rfl)) (hw _ (List.mem_of_getElem? (i := 86) rfl)); exact ⟨a, S, E, own_efld ev m28⟩
  have r3 : own_E s s.heap "com/example/oubliette/oubliette/engine/Rank" "Lcom/example/oubliette/oubliette/engine/Rank;" "FIVE" (3 : Int32) := by obtain ⟨a, ev, S, E⟩ := own_enum m11 (hw _ (List.mem_of_getElem? (i := 9) rfl)) (hw _ (List.mem_of_getElem? (i := 72) rfl)); exact ⟨a, S, E, own_efld ev m14⟩
  have r4 : own_E s s.heap "com/example/oubliette/oubliette/engine/Rank" "Lcom/example/oubliette/oubliette/engine/Rank;" "SIX" (4 : Int32) := by obtain ⟨a, ev, S, E⟩ := own_enum m9 (hw _ (List.mem_of_getElem? (i := 9) rfl)) (hw _ (List.mem_of_getElem? (i := 70) rfl)); exact ⟨a, S, E, own_efld ev m10⟩
  have r5 : own_E s s.heap "com/example/oubliette/oubliette/engine/Rank" "Lcom/example/oubliette/oubliette/engine/Rank;" "SEVEN" (5 : Int32) := by obtain ⟨a, ev, S, E⟩ := own_enum m17 (hw _ (List.mem_of_getElem? (i := 9) rfl)) (hw _ (List.mem_of_getElem? (i := 78) rfl)); exact ⟨a, S, E, own_efld ev m18⟩
  have r6 : own_E s s.heap "com/example/oubliette/oubliette/engine/Rank" "Lcom/example/oubliette/oubliette/engine/Rank;" "EIGHT" (6 : Int32) := by obtain ⟨a, ev, S, E⟩ := own_enum m19 (hw _ (List.mem_of_getElem? (i := 9) rfl)) (hw _ (List.mem_of_getElem? (i := 80) rfl)); exact ⟨a, S, E, own_efld ev m20⟩
  have r7 : own_E s s.heap "com/example/oubliette/oubliette/engine/Rank" "Lcom/example/oubliette/oubliette/engine/Rank;" "NINE" (7 : Int32) := by obtain ⟨a, ev, S, E⟩ := own_enum m33 (hw _ (List.mem_of_getElem? (i := 9) rfl)) (hw _ (List.mem_of_getElem? (i := 94) rfl)); exact ⟨a, S, E, own_efld ev n33⟩
  have r8 : own_E s s.heap "com/example/oubliette/oubliette/engine/Rank" "Lcom/example/oubliette/oubliette/engine/Rank;" "TEN" (8 : Int32) := by obtain ⟨a, ev, S, E⟩ := own_enum m21 (hw _ (List.mem_of_getElem? (i := 9) rfl)) (hw _ (List.mem_of_getElem? (i := 82) rfl)); exact ⟨a, S, E, own_efld ev m22⟩
  have r9 : own_E s s.heap "com/example/oubliette/oubliette/engine/Rank" "Lcom/example/oubliette/oubliette/engine/Rank;" "JACK" (9 : Int32) := by obtain ⟨a, ev, S, E⟩ := own_enum m15 (hw _ (List.mem_of_getElem? (i := 9) rfl)) (hw _ (List.mem_of_getElem? (i := 76) rfl)); exact ⟨a, S, E, own_efld ev m16⟩
  have r10 : own_E s s.heap "com/example/oubliette/oubliette/engine/Rank" "Lcom/example/oubliette/oubliette/engine/Rank;" "QUEEN" (10 : Int32) := by obtain ⟨a, ev, S, E⟩ := own_enum m29 (hw _ (List.mem_of_getElem? (i := 9) rfl)) (hw _ (List.mem_of_getElem? (i := 90) rfl)); exact ⟨a, S, E, own_efld ev m30⟩
  have r11 : own_E s s.heap "com/example/oubliette/oubliette/engine/Rank" "Lcom/example/oubliette/oubliette/engine/Rank;" "KING" (11 : Int32) := by obtain ⟨a, ev, S, E⟩ := own_enum m31 (hw _ (List.mem_of_getElem? (i := 9) rfl)) (hw _ (List.mem_of_getElem? (i := 92) rfl)); exact ⟨a, S, E, own_efld ev m32⟩
  have r12 : own_E s s.heap "com/example/oubliette/oubliette/engine/Rank" "Lcom/example/oubliette/oubliette/engine/Rank;" "ACE" (12 : Int32) := by obtain ⟨a, ev, S, E⟩ := own_enum m23 (hw _ (List.mem_of_getElem? (i := 9) rfl)) (hw _ (List.mem_of_getElem? (i := 84) rfl)); exact ⟨a, S, E, own_efld ev m24⟩
  have u0 : own_E s s.heap "com/example/oubliette/oubliette/engine/Suit" "Lcom/example/oubliette/oubliette/engine/Suit;" "CLUBS" (0 : Int32) := by obtain ⟨a, ev, S, E⟩ := own_enum m12 (hw _ (List.mem_of_getElem? (i := 15) rfl)) (hw _ (List.mem_of_getElem? (i := 74) rfl)); exact ⟨a, S, E, own_efld ev m13⟩
  have u1 : own_E s s.heap "com/example/oubliette/oubliette/engine/Suit" "Lcom/example/oubliette/oubliette/engine/Suit;" "DIAMONDS" (1 : Int32) := by obtain ⟨a, ev, S, E⟩ := own_enum m6 (hw _ (List.mem_of_getElem? (i := 15) rfl)) (hw _ (List.mem_of_getElem? (i := 68) rfl)); exact ⟨a, S, E, own_efld ev m7⟩
  have u2 : own_E s s.heap "com/example/oubliette/oubliette/engine/Suit" "Lcom/example/oubliette/oubliette/engine/Suit;" "HEARTS" (2 : Int32) := by obtain ⟨a, ev, S, E⟩ := own_enum m26 (hw _ (List.mem_of_getElem? (i := 15) rfl)) (hw _ (List.mem_of_getElem? (i := 88) rfl)); exact ⟨a, S, E, own_efld ev m27⟩
  have u3 : own_E s s.heap "com/example/oubliette/oubliette/engine/Suit" "Lcom/example/oubliette/oubliette/engine/Suit;" "SPADES" (3 : Int32) := by obtain ⟨a, ev, S, E⟩ := own_enum m1 (hw _ (List.mem_of_getElem? (i := 15) rfl)) (hw _ (List.mem_of_getElem? (i := 16) rfl)); exact ⟨a, S, E, own_efld ev m2⟩
  obtain ⟨n, o, h1, h2, h3, _, L, rfl, ⟨rfl, N⟩, hq⟩ := own_law l s _ hw tables_1 i0 i1 s.heap s.heap.size  (Nat.le_refl _) (Old.start s) S_n r0 r1 r2 r3 r4 r5 r6 r7 r8 r9 r10 r11 r12 u0 u1 u2 u3 p e ha hc hk s m _ below hf ((Spec.applies_iff_loose hf).mp happ).1 ⟨rfl, State.Warmed39.refl s, rfl⟩ trivial
  refine ⟨n, _, h1, h2, h3, hpost _ _ _ _ _ _ ⟨Cond.after_iff.mpr rfl, Cond.after_iff.mpr (eq_i res_at (Term.int_eval (1)) rfl), trivial⟩ ⟨hq.1, hq.2.1, hq.2.2.1, (hq.2.2.2.sift fun y hy => Or.inr (N y hy)).mono (by decide) (by decide)⟩⟩
theorem main_1_1 : Claimed_1_1 := own_comes fun _ _ _ _ _ _ h hF => ⟨h.1, hF⟩
theorem main_1_2 : Claimed_1_2 := own_comes fun _ _ _ _ _ _ h hF => ⟨h.2.1, hF⟩
end Jvm.Pilot.@@N@@
namespace Jvm.Pilot.@@N@@
open Jvm Jvm.ClassFile Sem Op Lib Jvm.Free Jvm.Stand Jvm.Pilot.@@N@@.Jvm.D
/-! MADE BY PROGRAM (witnessworld.py) out of the Statement's table words and the real class files: 19 classes; the members and pool entries that the words name. The judged class is class 1, her method 3. -/
namespace start1
open Jvm.ClassFile
def u (s : String) : CpInfo := .utf8 (stringToUtf16 s)
/-- a pool by its gaps: so many unusable entries, then the entry; so many at the end -/
def gap : Nat → List CpInfo → List CpInfo
  | 0, r => r
  | n + 1, r => .unusable :: gap n r
def poolList (es : List (Nat × CpInfo)) (last : Nat) : List CpInfo := es.foldr (fun e r => gap e.1 (e.2 :: r)) (gap last [])
def pool (es : List (Nat × CpInfo)) (last : Nat) : Array CpInfo := ⟨poolList es last⟩
def fileOf (pool : Array CpInfo) (this : Nat) (attrs : Array Attribute := #[]) (ms : Array MethodInfo := #[]) (fl : Nat := 33) (sup : Nat := 0) (ifs : Array Nat := #[]) (fds : Array FieldInfo := #[]) : ClassFile where
  minorVersion := 0
  majorVersion := 65
  constantPool := pool
  accessFlags := fl
  thisClass := this
  superClass := sup
  interfaces := ifs
  fields := fds
  methods := ms
  attributes := attrs
def plain (name : String) (sup : Option ClassId) : Class where
  name := name
  kind := .ordinary
  loader := none
  accessFlags := 33
  super := sup
  interfaces := #[]
  cf := none
  fields := #[]
  methods := #[]
  instanceTypes := #[]
  staticTypes := #[]
  resolved := #[]
  callSites := []
  init := .initialized
  statics := none
  mirror := none

def pool0 : Array CpInfo := pool [(5, u "<init>"), (0, u "()V"), (1, .class_ 10), (1, u "java/lang/Object")] 113

def k0c0 : Code := { maxStack := 0, maxLocals := 1, code := object_method_1_code, exceptionTable := #[], attributes := #[] }
def k0m0 : Method := { name := "<init>", desc := "()V", sig := { parameters := [], returnType := none }, accessFlags := 1, code := some k0c0 }
/-- java/lang/Object -/
def k0 : Class := { plain "java/lang/Object" none with
  accessFlags := 33
  interfaces := #[]
  cf := some (fileOf pool0 8 #[] #[{ accessFlags := 1, nameIndex := 5, descriptorIndex := 6, attributes := #[] }] 33 0 #[] #[])
  fields := #[]
  methods := #[k0m0]
  instanceTypes := #[]
  staticTypes := #[]
  resolved := Array.replicate 124 none
  statics := none }

def pool1 : Array CpInfo := pool [(2, .class_ 4), (1, u "java/lang/Object"), (0, u "<init>"), (0, u "()V"), (0, .fieldref 8 9), (0, .class_ 10), (0, .nameAndType 11 12), (0, u "com/example/oubliette/oubliette/engine/Rank"), (0, u "TWO"), (0, u "Lcom/example/oubliette/oubliette/engine/Rank;"), (0, .fieldref 8 14), (0, .nameAndType 15 12), (0, u "THREE"), (0, .fieldref 8 17), (0, .nameAndType 18 12), (0, u "FOUR"), (0, .fieldref 8 20), (0, .nameAndType 21 12), (0, u "FIVE"), (0, .fieldref 8 23), (0, .nameAndType 24 12), (0, u "SIX"), (0, .fieldref 8 26), (0, .nameAndType 27 12), (0, u "SEVEN"), (0, .fieldref 8 29), (0, .nameAndType 30 12), (0, u "EIGHT"), (0, .fieldref 8 32), (0, .nameAndType 33 12), (0, u "NINE"), (0, .fieldref 8 35), (0, .nameAndType 36 12), (0, u "TEN"), (0, .fieldref 8 38), (0, .nameAndType 39 12), (0, u "JACK"), (0, .fieldref 8 41), (0, .nameAndType 42 12), (0, u "QUEEN"), (0, .fieldref 8 44), (0, .nameAndType 45 12), (0, u "KING"), (0, .fieldref 8 47), (0, .nameAndType 48 12), (0, u "ACE"), (0, .fieldref 50 51), (0, .class_ 52), (0, .nameAndType 53 54), (0, u "com/example/oubliette/oubliette/engine/Suit"), (0, u "CLUBS"), (0, u "Lcom/example/oubliette/oubliette/engine/Suit;"), (0, .fieldref 50 56), (0, .nameAndType 57 54), (0, u "DIAMONDS"), (0, .fieldref 50 59), (0, .nameAndType 60 54), (0, u "HEARTS"), (0, .fieldref 50 62), (0, .nameAndType 63 54), (0, u "SPADES"), (0, .integer 2147483647), (0, .class_ 66), (0, u "com/example/oubliette/oubliette/engine/Card"), (0, .methodref 68 69), (0, .class_ 70), (0, .nameAndType 71 72), (0, u "com/example/oubliette/oubliette/engine/CardPlacePinLaw"), (0, u "rankOf"), (0, u "(I)Lcom/example/oubliette/oubliette/engine/Rank;"), (0, .methodref 68 74), (0, .nameAndType 75 76), (0, u "suitOf"), (0, u "(I)Lcom/example/oubliette/oubliette/engine/Suit;"), (0, .methodref 65 78), (0, .nameAndType 5 79), (0, u "(Lcom/example/oubliette/oubliette/engine/Rank;Lcom/example/oubliette/oubliette/engine/Suit;)V"), (0, .methodref 65 81), (0, .nameAndType 82 83), (0, u "place"), (0, u "()I"), (3, u "law"), (0, u "(II)Z")] 2

def k1m0 : Method := { name := "<init>", desc := "()V", sig := { parameters := [], returnType := none }, accessFlags := 2, code := none }
def k1c1 : Code := { maxStack := 2, maxLocals := 1, code := method_2_code, exceptionTable := #[], attributes := #[] }
def k1m1 : Method := { name := "rankOf", desc := "(I)Lcom/example/oubliette/oubliette/engine/Rank;", sig := { parameters := [.int], returnType := some (.object "com/example/oubliette/oubliette/engine/Rank") }, accessFlags := 10, code := some k1c1 }
def k1c2 : Code := { maxStack := 2, maxLocals := 1, code := method_3_code, exceptionTable := #[], attributes := #[] }
def k1m2 : Method := { name := "suitOf", desc := "(I)Lcom/example/oubliette/oubliette/engine/Suit;", sig := { parameters := [.int], returnType := some (.object "com/example/oubliette/oubliette/engine/Suit") }, accessFlags := 10, code := some k1c2 }
def k1c3 : Code := { maxStack := 4, maxLocals := 6, code := code, exceptionTable := #[], attributes := #[] }
def k1m3 : Method := { name := "law", desc := "(II)Z", sig := { parameters := [.int, .int], returnType := some .boolean }, accessFlags := 9, code := some k1c3 }
/-- com/example/oubliette/oubliette/engine/CardPlacePinLaw -/
def k1 : Class := { plain "com/example/oubliette/oubliette/engine/CardPlacePinLaw" (some 0) with
  accessFlags := 49
  interfaces := #[]
  cf := some (fileOf pool1 68 #[] #[{ accessFlags := 2, nameIndex := 5, descriptorIndex := 6, attributes := #[] }, { accessFlags := 10, nameIndex := 71, descriptorIndex := 72, attributes := #[] }, { accessFlags := 10, nameIndex := 75, descriptorIndex := 76, attributes := #[] }, { accessFlags := 9, nameIndex := 87, descriptorIndex := 88, attributes := #[] }] 49 2 #[] #[])
  fields := #[]
  methods := #[k1m0, k1m1, k1m2, k1m3]
  instanceTypes := #[]
  staticTypes := #[]
  resolved := Array.replicate 91 none
  statics := none }

def pool2 : Array CpInfo := pool [(1, .methodref 2 3), (0, .class_ 4), (0, .nameAndType 5 6), (0, u "java/lang/Object"), (0, u "<init>"), (0, u "()V"), (0, .class_ 8), (0, u "java/lang/Record")] 13

def k2c0 : Code := { maxStack := 1, maxLocals := 1, code := jdk_30_method_1_code, exceptionTable := #[], attributes := #[] }
def k2m0 : Method := { name := "<init>", desc := "()V", sig := { parameters := [], returnType := none }, accessFlags := 4, code := some k2c0 }
/-- java/lang/Record -/
def k2 : Class := { plain "java/lang/Record" (some 0) with
  accessFlags := 1057
  interfaces := #[]
  cf := some (fileOf pool2 7 #[] #[{ accessFlags := 4, nameIndex := 5, descriptorIndex := 6, attributes := #[] }] 1057 2 #[] #[])
  fields := #[]
  methods := #[k2m0]
  instanceTypes := #[]
  staticTypes := #[]
  resolved := Array.replicate 22 none
  statics := none }

def pool3 : Array CpInfo := pool [(1, .methodref 2 3), (0, .class_ 4), (0, .nameAndType 5 6), (0, u "java/lang/Record"), (0, u "<init>"), (0, u "()V"), (0, .string 8), (0, u "rank"), (0, .methodref 10 11), (0, .class_ 12), (0, .nameAndType 13 14), (0, u "java/util/Objects"), (0, u "requireNonNull"), (0, u "(Ljava/lang/Object;Ljava/lang/String;)Ljava/lang/Object;"), (0, .string 16), (0, u "suit"), (0, .fieldref 18 19), (0, .class_ 20), (0, .nameAndType 8 21), (0, u "com/example/oubliette/oubliette/engine/Card"), (0, u "Lcom/example/oubliette/oubliette/engine/Rank;"), (0, .fieldref 18 23), (0, .nameAndType 16 24), (0, u "Lcom/example/oubliette/oubliette/engine/Suit;"), (7, u "()I"), (9, .class_ 44), (1, u "com/example/oubliette/oubliette/engine/Rank"), (6, .class_ 52), (0, u "com/example/oubliette/oubliette/engine/Suit"), (12, u "(Lcom/example/oubliette/oubliette/engine/Rank;Lcom/example/oubliette/oubliette/engine/Suit;)V"), (8, .methodref 51 75), (0, .nameAndType 76 32), (0, u "ordinal"), (0, .fieldref 18 78), (0, .nameAndType 79 80), (0, u "RANKS"), (0, u "I"), (0, .methodref 42 75), (11, u "NOTATION"), (0, u "Ljava/lang/String;"), (55, u "place")] 53

def k3c0 : Code := { maxStack := 2, maxLocals := 3, code := prog_3_method_1_code, exceptionTable := #[], attributes := #[] }
def k3m0 : Method := { name := "<init>", desc := "(Lcom/example/oubliette/oubliette/engine/Rank;Lcom/example/oubliette/oubliette/engine/Suit;)V", sig := { parameters := [(.object "com/example/oubliette/oubliette/engine/Rank"), (.object "com/example/oubliette/oubliette/engine/Suit")], returnType := none }, accessFlags := 1, code := some k3c0 }
def k3c1 : Code := { maxStack := 2, maxLocals := 1, code := prog_3_method_4_code, exceptionTable := #[], attributes := #[] }
def k3m1 : Method := { name := "place", desc := "()I", sig := { parameters := [], returnType := some .int }, accessFlags := 0, code := some k3c1 }
/-- com/example/oubliette/oubliette/engine/Card -/
def k3 : Class := { plain "com/example/oubliette/oubliette/engine/Card" (some 2) with
  accessFlags := 49
  interfaces := #[]
  cf := some (fileOf pool3 18 #[] #[{ accessFlags := 1, nameIndex := 5, descriptorIndex := 65, attributes := #[] }, { accessFlags := 0, nameIndex := 150, descriptorIndex := 32, attributes := #[] }] 49 2 #[] #[{ accessFlags := 18, nameIndex := 8, descriptorIndex := 21, attributes := #[] }, { accessFlags := 18, nameIndex := 16, descriptorIndex := 24, attributes := #[] }, { accessFlags := 26, nameIndex := 79, descriptorIndex := 80, attributes := #[] }, { accessFlags := 26, nameIndex := 93, descriptorIndex := 94, attributes := #[] }])
  fields := #[{ name := "rank", type := (.object "com/example/oubliette/oubliette/engine/Rank"), accessFlags := 18, slot := 0, constantValue := 0 }, { name := "suit", type := (.object "com/example/oubliette/oubliette/engine/Suit"), accessFlags := 18, slot := 1, constantValue := 0 }, { name := "RANKS", type := .int, accessFlags := 26, slot := 0, constantValue := 0 }, { name := "NOTATION", type := (.object "java/lang/String"), accessFlags := 26, slot := 1, constantValue := 0 }]
  methods := #[k3m0, k3m1]
  instanceTypes := #[(.object "com/example/oubliette/oubliette/engine/Rank"), (.object "com/example/oubliette/oubliette/engine/Suit")]
  staticTypes := #[.int, (.object "java/lang/String")]
  resolved := Array.replicate 204 none
  statics := some 0 }

def pool4 : Array CpInfo := pool [(1, .class_ 2), (0, u "java/lang/constant/Constable"), (0, .class_ 4), (0, u "java/lang/Object")] 6

/-- java/lang/constant/Constable -/
def k4 : Class := { plain "java/lang/constant/Constable" (some 0) with
  accessFlags := 1537
  interfaces := #[]
  cf := some (fileOf pool4 1 #[] #[] 1537 3 #[] #[])
  fields := #[]
  methods := #[]
  instanceTypes := #[]
  staticTypes := #[]
  resolved := Array.replicate 11 none
  statics := none }

def pool5 : Array CpInfo := pool [(1, .class_ 2), (0, u "java/lang/Comparable"), (0, .class_ 4), (0, u "java/lang/Object")] 7

/-- java/lang/Comparable -/
def k5 : Class := { plain "java/lang/Comparable" (some 0) with
  accessFlags := 1537
  interfaces := #[]
  cf := some (fileOf pool5 1 #[] #[] 1537 3 #[] #[])
  fields := #[]
  methods := #[]
  instanceTypes := #[]
  staticTypes := #[]
  resolved := Array.replicate 12 none
  statics := none }

def pool6 : Array CpInfo := pool [(1, .class_ 2), (0, u "java/io/Serializable"), (0, .class_ 4), (0, u "java/lang/Object")] 2

/-- java/io/Serializable -/
def k6 : Class := { plain "java/io/Serializable" (some 0) with
  accessFlags := 1537
  interfaces := #[]
  cf := some (fileOf pool6 1 #[] #[] 1537 3 #[] #[])
  fields := #[]
  methods := #[]
  instanceTypes := #[]
  staticTypes := #[]
  resolved := Array.replicate 7 none
  statics := none }

def pool7 : Array CpInfo := pool [(2, .class_ 4), (1, u "java/lang/Enum"), (0, u "name"), (0, u "Ljava/lang/String;"), (0, .fieldref 2 8), (0, .nameAndType 9 10), (0, u "ordinal"), (0, u "I"), (1, .class_ 14), (1, u "java/lang/Object"), (4, u "hash"), (86, .class_ 108), (1, u "java/lang/Enum$EnumDesc"), (2, .class_ 112), (0, u "java/lang/constant/Constable"), (0, .class_ 114), (0, u "java/lang/Comparable"), (0, .class_ 116), (0, u "java/io/Serializable"), (9, u "()I")] 77

def k7c0 : Code := { maxStack := 1, maxLocals := 1, code := jdk_37_method_2_code, exceptionTable := #[], attributes := #[] }
def k7m0 : Method := { name := "ordinal", desc := "()I", sig := { parameters := [], returnType := some .int }, accessFlags := 17, code := some k7c0 }
/-- java/lang/Enum -/
def k7 : Class := { plain "java/lang/Enum" (some 0) with
  accessFlags := 1057
  interfaces := #[4, 5, 6]
  cf := some (fileOf pool7 2 #[.nestMembers #[106]] #[{ accessFlags := 17, nameIndex := 9, descriptorIndex := 126, attributes := #[] }] 1057 12 #[111, 113, 115] #[{ accessFlags := 18, nameIndex := 5, descriptorIndex := 6, attributes := #[] }, { accessFlags := 18, nameIndex := 9, descriptorIndex := 10, attributes := #[] }, { accessFlags := 2, nameIndex := 19, descriptorIndex := 10, attributes := #[] }])
  fields := #[{ name := "name", type := (.object "java/lang/String"), accessFlags := 18, slot := 0, constantValue := 0 }, { name := "ordinal", type := .int, accessFlags := 18, slot := 1, constantValue := 0 }, { name := "hash", type := .int, accessFlags := 2, slot := 2, constantValue := 0 }]
  methods := #[k7m0]
  instanceTypes := #[(.object "java/lang/String"), .int, .int]
  staticTypes := #[]
  resolved := Array.replicate 204 none
  statics := none }

def pool8 : Array CpInfo := pool [(1, .class_ 2), (0, u "com/example/oubliette/oubliette/engine/Rank"), (2, u "TWO"), (0, u "Lcom/example/oubliette/oubliette/engine/Rank;"), (2, u "THREE"), (2, u "FOUR"), (2, u "FIVE"), (2, u "SIX"), (2, u "SEVEN"), (2, u "EIGHT"), (2, u "NINE"), (2, u "TEN"), (2, u "JACK"), (2, u "QUEEN"), (2, u "KING"), (2, u "ACE"), (2, u "$VALUES"), (0, u "[Lcom/example/oubliette/oubliette/engine/Rank;"), (6, .class_ 55), (1, u "java/lang/Enum"), (8, u "code"), (0, u "Ljava/lang/String;"), (2, u "value"), (0, u "I")] 112

/-- com/example/oubliette/oubliette/engine/Rank -/
def k8 : Class := { plain "com/example/oubliette/oubliette/engine/Rank" (some 7) with
  accessFlags := 16433
  interfaces := #[]
  cf := some (fileOf pool8 1 #[] #[] 16433 53 #[] #[{ accessFlags := 16409, nameIndex := 5, descriptorIndex := 6, attributes := #[] }, { accessFlags := 16409, nameIndex := 9, descriptorIndex := 6, attributes := #[] }, { accessFlags := 16409, nameIndex := 12, descriptorIndex := 6, attributes := #[] }, { accessFlags := 16409, nameIndex := 15, descriptorIndex := 6, attributes := #[] }, { accessFlags := 16409, nameIndex := 18, descriptorIndex := 6, attributes := #[] }, { accessFlags := 16409, nameIndex := 21, descriptorIndex := 6, attributes := #[] }, { accessFlags := 16409, nameIndex := 24, descriptorIndex := 6, attributes := #[] }, { accessFlags := 16409, nameIndex := 27, descriptorIndex := 6, attributes := #[] }, { accessFlags := 16409, nameIndex := 30, descriptorIndex := 6, attributes := #[] }, { accessFlags := 16409, nameIndex := 33, descriptorIndex := 6, attributes := #[] }, { accessFlags := 16409, nameIndex := 36, descriptorIndex := 6, attributes := #[] }, { accessFlags := 16409, nameIndex := 39, descriptorIndex := 6, attributes := #[] }, { accessFlags := 16409, nameIndex := 42, descriptorIndex := 6, attributes := #[] }, { accessFlags := 18, nameIndex := 64, descriptorIndex := 65, attributes := #[] }, { accessFlags := 18, nameIndex := 68, descriptorIndex := 69, attributes := #[] }, { accessFlags := 4122, nameIndex := 45, descriptorIndex := 46, attributes := #[] }])
  fields := #[{ name := "TWO", type := (.object "com/example/oubliette/oubliette/engine/Rank"), accessFlags := 16409, slot := 0, constantValue := 0 }, { name := "THREE", type := (.object "com/example/oubliette/oubliette/engine/Rank"), accessFlags := 16409, slot := 1, constantValue := 0 }, { name := "FOUR", type := (.object "com/example/oubliette/oubliette/engine/Rank"), accessFlags := 16409, slot := 2, constantValue := 0 }, { name := "FIVE", type := (.object "com/example/oubliette/oubliette/engine/Rank"), accessFlags := 16409, slot := 3, constantValue := 0 }, { name := "SIX", type := (.object "com/example/oubliette/oubliette/engine/Rank"), accessFlags := 16409, slot := 4, constantValue := 0 }, { name := "SEVEN", type := (.object "com/example/oubliette/oubliette/engine/Rank"), accessFlags := 16409, slot := 5, constantValue := 0 }, { name := "EIGHT", type := (.object "com/example/oubliette/oubliette/engine/Rank"), accessFlags := 16409, slot := 6, constantValue := 0 }, { name := "NINE", type := (.object "com/example/oubliette/oubliette/engine/Rank"), accessFlags := 16409, slot := 7, constantValue := 0 }, { name := "TEN", type := (.object "com/example/oubliette/oubliette/engine/Rank"), accessFlags := 16409, slot := 8, constantValue := 0 }, { name := "JACK", type := (.object "com/example/oubliette/oubliette/engine/Rank"), accessFlags := 16409, slot := 9, constantValue := 0 }, { name := "QUEEN", type := (.object "com/example/oubliette/oubliette/engine/Rank"), accessFlags := 16409, slot := 10, constantValue := 0 }, { name := "KING", type := (.object "com/example/oubliette/oubliette/engine/Rank"), accessFlags := 16409, slot := 11, constantValue := 0 }, { name := "ACE", type := (.object "com/example/oubliette/oubliette/engine/Rank"), accessFlags := 16409, slot := 12, constantValue := 0 }, { name := "code", type := (.object "java/lang/String"), accessFlags := 18, slot := 3, constantValue := 0 }, { name := "value", type := .int, accessFlags := 18, slot := 4, constantValue := 0 }, { name := "$VALUES", type := (.array (.object "com/example/oubliette/oubliette/engine/Rank")), accessFlags := 4122, slot := 13, constantValue := 0 }]
  methods := #[]
  instanceTypes := #[(.object "java/lang/String"), .int, .int, (.object "java/lang/String"), .int]
  staticTypes := #[(.object "com/example/oubliette/oubliette/engine/Rank"), (.object "com/example/oubliette/oubliette/engine/Rank"), (.object "com/example/oubliette/oubliette/engine/Rank"), (.object "com/example/oubliette/oubliette/engine/Rank"), (.object "com/example/oubliette/oubliette/engine/Rank"), (.object "com/example/oubliette/oubliette/engine/Rank"), (.object "com/example/oubliette/oubliette/engine/Rank"), (.object "com/example/oubliette/oubliette/engine/Rank"), (.object "com/example/oubliette/oubliette/engine/Rank"), (.object "com/example/oubliette/oubliette/engine/Rank"), (.object "com/example/oubliette/oubliette/engine/Rank"), (.object "com/example/oubliette/oubliette/engine/Rank"), (.object "com/example/oubliette/oubliette/engine/Rank"), (.array (.object "com/example/oubliette/oubliette/engine/Rank"))]
  resolved := Array.replicate 182 none
  statics := some 1 }

def pool9 : Array CpInfo := pool [(1, .class_ 2), (0, u "com/example/oubliette/oubliette/engine/Suit"), (2, u "CLUBS"), (0, u "Lcom/example/oubliette/oubliette/engine/Suit;"), (2, u "DIAMONDS"), (2, u "HEARTS"), (2, u "SPADES"), (2, u "$VALUES"), (0, u "[Lcom/example/oubliette/oubliette/engine/Suit;"), (6, .class_ 28), (1, u "java/lang/Enum"), (8, u "code"), (0, u "Ljava/lang/String;")] 85

/-- com/example/oubliette/oubliette/engine/Suit -/
def k9 : Class := { plain "com/example/oubliette/oubliette/engine/Suit" (some 7) with
  accessFlags := 16433
  interfaces := #[]
  cf := some (fileOf pool9 1 #[] #[] 16433 26 #[] #[{ accessFlags := 16409, nameIndex := 5, descriptorIndex := 6, attributes := #[] }, { accessFlags := 16409, nameIndex := 9, descriptorIndex := 6, attributes := #[] }, { accessFlags := 16409, nameIndex := 12, descriptorIndex := 6, attributes := #[] }, { accessFlags := 16409, nameIndex := 15, descriptorIndex := 6, attributes := #[] }, { accessFlags := 18, nameIndex := 37, descriptorIndex := 38, attributes := #[] }, { accessFlags := 4122, nameIndex := 18, descriptorIndex := 19, attributes := #[] }])
  fields := #[{ name := "CLUBS", type := (.object "com/example/oubliette/oubliette/engine/Suit"), accessFlags := 16409, slot := 0, constantValue := 0 }, { name := "DIAMONDS", type := (.object "com/example/oubliette/oubliette/engine/Suit"), accessFlags := 16409, slot := 1, constantValue := 0 }, { name := "HEARTS", type := (.object "com/example/oubliette/oubliette/engine/Suit"), accessFlags := 16409, slot := 2, constantValue := 0 }, { name := "SPADES", type := (.object "com/example/oubliette/oubliette/engine/Suit"), accessFlags := 16409, slot := 3, constantValue := 0 }, { name := "code", type := (.object "java/lang/String"), accessFlags := 18, slot := 3, constantValue := 0 }, { name := "$VALUES", type := (.array (.object "com/example/oubliette/oubliette/engine/Suit")), accessFlags := 4122, slot := 4, constantValue := 0 }]
  methods := #[]
  instanceTypes := #[(.object "java/lang/String"), .int, .int, (.object "java/lang/String")]
  staticTypes := #[(.object "com/example/oubliette/oubliette/engine/Suit"), (.object "com/example/oubliette/oubliette/engine/Suit"), (.object "com/example/oubliette/oubliette/engine/Suit"), (.object "com/example/oubliette/oubliette/engine/Suit"), (.array (.object "com/example/oubliette/oubliette/engine/Suit"))]
  resolved := Array.replicate 124 none
  statics := some 2 }

def pool10 : Array CpInfo := pool [(2, .class_ 4), (1, u "java/lang/CharSequence"), (42, .class_ 48), (0, u "java/lang/CharSequence$1CodePointIterator"), (10, .class_ 60), (0, u "java/lang/CharSequence$1CharIterator"), (5, .class_ 67), (0, u "java/lang/Object")] 63

/-- java/lang/CharSequence -/
def k10 : Class := { plain "java/lang/CharSequence" (some 0) with
  accessFlags := 1537
  interfaces := #[]
  cf := some (fileOf pool10 2 #[.nestMembers #[47, 59]] #[] 1537 66 #[] #[])
  fields := #[]
  methods := #[]
  instanceTypes := #[]
  staticTypes := #[]
  resolved := Array.replicate 131 none
  statics := none }

def pool11 : Array CpInfo := pool [(1, .class_ 2), (0, u "java/lang/constant/ConstantDesc"), (0, .class_ 4), (0, u "java/lang/Object")] 32

/-- java/lang/constant/ConstantDesc -/
def k11 : Class := { plain "java/lang/constant/ConstantDesc" (some 0) with
  accessFlags := 1537
  interfaces := #[]
  cf := some (fileOf pool11 1 #[] #[] 1537 3 #[] #[])
  fields := #[]
  methods := #[]
  instanceTypes := #[]
  staticTypes := #[]
  resolved := Array.replicate 37 none
  statics := none }

def pool12 : Array CpInfo := pool [(2, .class_ 4), (1, u "java/lang/Object"), (0, u "<init>"), (0, u "()V"), (3, .class_ 12), (1, u "java/lang/String"), (0, u "value"), (0, u "[B"), (2, u "coder"), (0, u "B"), (2, u "hash"), (0, u "I"), (2, u "hashIsZero"), (0, u "Z"), (13, u "COMPACT_STRINGS"), (534, .class_ 576), (0, u "java/lang/CharSequence"), (22, u "CASE_INSENSITIVE_ORDER"), (0, u "Ljava/util/Comparator;"), (500, u "serialPersistentFields"), (0, u "[Ljava/io/ObjectStreamField;"), (0, .class_ 1104), (0, u "java/lang/String$CaseInsensitiveComparator"), (1, .class_ 1107), (0, u "java/io/Serializable"), (0, .class_ 1109), (0, u "java/lang/Comparable"), (0, .class_ 1111), (0, u "java/lang/constant/Constable"), (0, .class_ 1113), (0, u "java/lang/constant/ConstantDesc"), (2, u "serialVersionUID"), (0, u "J"), (3, u "REPL"), (0, u "C"), (2, u "LATIN1"), (1, u "UTF16")] 323

def k12m0 : Method := { name := "<init>", desc := "()V", sig := { parameters := [], returnType := none }, accessFlags := 1, code := none }
/-- java/lang/String -/
def k12 : Class := { plain "java/lang/String" (some 0) with
  accessFlags := 49
  interfaces := #[6, 5, 10, 4, 11]
  cf := some (fileOf pool12 10 #[.nestMembers #[1103]] #[{ accessFlags := 1, nameIndex := 5, descriptorIndex := 6, attributes := #[] }] 49 2 #[1106, 1108, 575, 1110, 1112] #[{ accessFlags := 18, nameIndex := 13, descriptorIndex := 14, attributes := #[] }, { accessFlags := 18, nameIndex := 17, descriptorIndex := 18, attributes := #[] }, { accessFlags := 2, nameIndex := 21, descriptorIndex := 22, attributes := #[] }, { accessFlags := 2, nameIndex := 25, descriptorIndex := 26, attributes := #[] }, { accessFlags := 26, nameIndex := 1116, descriptorIndex := 1117, attributes := #[] }, { accessFlags := 24, nameIndex := 40, descriptorIndex := 26, attributes := #[] }, { accessFlags := 26, nameIndex := 1101, descriptorIndex := 1102, attributes := #[] }, { accessFlags := 26, nameIndex := 1121, descriptorIndex := 1122, attributes := #[] }, { accessFlags := 25, nameIndex := 599, descriptorIndex := 600, attributes := #[] }, { accessFlags := 24, nameIndex := 1125, descriptorIndex := 18, attributes := #[] }, { accessFlags := 24, nameIndex := 1127, descriptorIndex := 18, attributes := #[] }])
  fields := #[{ name := "value", type := (.array .byte), accessFlags := 18, slot := 0, constantValue := 0 }, { name := "coder", type := .byte, accessFlags := 18, slot := 1, constantValue := 0 }, { name := "hash", type := .int, accessFlags := 2, slot := 2, constantValue := 0 }, { name := "hashIsZero", type := .boolean, accessFlags := 2, slot := 3, constantValue := 0 }, { name := "serialVersionUID", type := .long, accessFlags := 26, slot := 0, constantValue := 0 }, { name := "COMPACT_STRINGS", type := .boolean, accessFlags := 24, slot := 1, constantValue := 0 }, { name := "serialPersistentFields", type := (.array (.object "java/io/ObjectStreamField")), accessFlags := 26, slot := 2, constantValue := 0 }, { name := "REPL", type := .char, accessFlags := 26, slot := 3, constantValue := 0 }, { name := "CASE_INSENSITIVE_ORDER", type := (.object "java/util/Comparator"), accessFlags := 25, slot := 4, constantValue := 0 }, { name := "LATIN1", type := .byte, accessFlags := 24, slot := 5, constantValue := 0 }, { name := "UTF16", type := .byte, accessFlags := 24, slot := 6, constantValue := 0 }]
  methods := #[k12m0]
  instanceTypes := #[(.array .byte), .byte, .int, .boolean]
  staticTypes := #[.long, .boolean, (.array (.object "java/io/ObjectStreamField")), .char, (.object "java/util/Comparator"), .byte, .byte]
  resolved := Array.replicate 1451 none
  statics := none }

def pool13 : Array CpInfo := pool [(2, .class_ 4), (1, u "java/lang/Object"), (0, u "<init>"), (0, u "()V"), (35, .class_ 44), (1, u "java/util/Objects"), (0, u "requireNonNull"), (48, u "(Ljava/lang/Object;Ljava/lang/String;)Ljava/lang/Object;")] 89

def k13m0 : Method := { name := "<init>", desc := "()V", sig := { parameters := [], returnType := none }, accessFlags := 2, code := none }
def k13c1 : Code := { maxStack := 3, maxLocals := 2, code := jdk_31_method_11_code, exceptionTable := #[], attributes := #[] }
def k13m1 : Method := { name := "requireNonNull", desc := "(Ljava/lang/Object;Ljava/lang/String;)Ljava/lang/Object;", sig := { parameters := [(.object "java/lang/Object"), (.object "java/lang/String")], returnType := some (.object "java/lang/Object") }, accessFlags := 9, code := some k13c1 }
/-- java/util/Objects -/
def k13 : Class := { plain "java/util/Objects" (some 0) with
  accessFlags := 49
  interfaces := #[]
  cf := some (fileOf pool13 42 #[] #[{ accessFlags := 2, nameIndex := 5, descriptorIndex := 6, attributes := #[] }, { accessFlags := 9, nameIndex := 45, descriptorIndex := 94, attributes := #[] }] 49 2 #[] #[])
  fields := #[]
  methods := #[k13m0, k13m1]
  instanceTypes := #[]
  staticTypes := #[]
  resolved := Array.replicate 184 none
  statics := none }

def pool14 : Array CpInfo := pool [(1, u "java/lang/Cloneable"), (0, .class_ 1), (0, u "java/lang/Object"), (0, .class_ 3)] 3

/-- java/lang/Cloneable -/
def k14 : Class := { plain "java/lang/Cloneable" (some 0) with
  accessFlags := 1537
  interfaces := #[]
  cf := some (fileOf pool14 2 #[] #[] 1537 4 #[] #[])
  fields := #[]
  methods := #[]
  instanceTypes := #[]
  staticTypes := #[]
  resolved := Array.replicate 8 none
  statics := none }

/-- the primitive byte -/
def k15 : Class := { plain "byte" none with kind := .primitive 'B', accessFlags := 0x411 }
/-- [B -/
def k16 : Class := { plain "[B" (some 0) with kind := .array 15 .byte, interfaces := #[14, 6], accessFlags := 1041 }

/-- the primitive int -/
def k17 : Class := { plain "int" none with kind := .primitive 'I', accessFlags := 0x411 }
/-- [I -/
def k18 : Class := { plain "[I" (some 0) with kind := .array 17 .int, interfaces := #[14, 6], accessFlags := 1041 }

def heap : Heap := #[{ cls := 3, slots := #[.int 13, .null], vm := .statics 3 },
  { cls := 8, slots := #[.ref 3, .ref 4, .ref 5, .ref 6, .ref 7, .ref 8, .ref 9, .ref 10, .ref 11, .ref 12, .ref 13, .ref 14, .ref 15, .null], vm := .statics 8 },
  { cls := 9, slots := #[.ref 16, .ref 17, .ref 18, .ref 19, .null], vm := .statics 9 },
  { cls := 8, slots := #[.null, .int 0, .int 0, .null, .int 0], vm := .none },
  { cls := 8, slots := #[.null, .int 1, .int 0, .null, .int 0], vm := .none },
  { cls := 8, slots := #[.null, .int 2, .int 0, .null, .int 0], vm := .none },
  { cls := 8, slots := #[.null, .int 3, .int 0, .null, .int 0], vm := .none },
  { cls := 8, slots := #[.null, .int 4, .int 0, .null, .int 0], vm := .none },
  { cls := 8, slots := #[.null, .int 5, .int 0, .null, .int 0], vm := .none },
  { cls := 8, slots := #[.null, .int 6, .int 0, .null, .int 0], vm := .none },
  { cls := 8, slots := #[.null, .int 7, .int 0, .null, .int 0], vm := .none },
  { cls := 8, slots := #[.null, .int 8, .int 0, .null, .int 0], vm := .none },
  { cls := 8, slots := #[.null, .int 9, .int 0, .null, .int 0], vm := .none },
  { cls := 8, slots := #[.null, .int 10, .int 0, .null, .int 0], vm := .none },
  { cls := 8, slots := #[.null, .int 11, .int 0, .null, .int 0], vm := .none },
  { cls := 8, slots := #[.null, .int 12, .int 0, .null, .int 0], vm := .none },
  { cls := 9, slots := #[.null, .int 0, .int 0, .null], vm := .none },
  { cls := 9, slots := #[.null, .int 1, .int 0, .null], vm := .none },
  { cls := 9, slots := #[.null, .int 2, .int 0, .null], vm := .none },
  { cls := 9, slots := #[.null, .int 3, .int 0, .null], vm := .none }]
def classes : Array Class := #[k0, k1, k2, k3, k4, k5, k6, k7, k8, k9, k10, k11, k12, k13, k14, k15, k16, k17, k18]
def interned : List (Array UInt16 × Addr) := []
def slotsUsed : Nat := 102
def theMethod : MethodId := ⟨1, 3⟩
def args0 : Array Value := #[.int 5, .int 3]
def aboutOver (below : List Frame) : State where
  vm := { classes := classes, interned := interned.toArray }
  heap := heap
  slotsUsed := slotsUsed
  threads := #[{ frames := .invoking theMethod args0 :: below }]
def below0 : List Frame := [.native { method := ⟨0, 0⟩, args := #[] }]
def about1 : State := aboutOver below0
def p0 : Program := .bare "" "" ""
def e0 : Env := launch0.env 0 0 0
theorem w_frames : about1.frames = Frame.invoking theMethod args0 :: below0 := rfl
set_option maxRecDepth 65536 in
theorem w_args : argsFit about1.vm theMethod args0 = true := by decide +kernel
set_option maxRecDepth 65536 in
theorem w_heap : heapFits about1 = true := by decide +kernel
set_option maxRecDepth 65536 in
theorem w_runnable : about1.curStatus? = some .runnable := by decide +kernel
set_option maxRecDepth 65536 in
theorem w_alone : about1.alone = true := by decide +kernel
set_option maxRecDepth 65536 in
theorem w_named : about1.methodNamed? x = some theMethod := by decide +kernel
set_option maxRecDepth 65536 in
theorem w_hears : about1.hears theMethod below0 = true := by decide +kernel
set_option maxRecDepth 65536 in
theorem w_ripe : about1.ripe theMethod args0 below0 = true := by decide +kernel
theorem w_running : about1.status = .running := rfl
set_option maxRecDepth 65536 in
theorem w_room : about1.hasRoom e0.platform room_1 = true :=
  launch0.hasRoom_least _ room_1 (by decide +kernel) (by decide +kernel) (by decide +kernel) (by decide +kernel) (by decide +kernel) (by decide +kernel)
theorem allAtoms_all (ts : List Jvm.Cond) (a : Array Jvm.Value) (st : Jvm.State) : (allAtoms ts).before a st = ts.all (fun c => c.before a st) := by
  induction ts with
  | nil => rfl
  | cons c t ih =>
    show (Jvm.Cond.and c (allAtoms t)).before a st = _
    rw [Jvm.Cond.before_and, ih, List.all_cons]
def words1 : List Jvm.Cond := Jvm.Cond.code x code maxLocals ret :: tables_1
/-- a 'code' word, met by the world's own term for the bytes: nothing is compared byte by byte -/
theorem code_word {y : MethodName} {bytes : ByteArray} {mx : Nat} {rt : Option FieldType} {a : Array Value} {s : State} {m : MethodId} {meth : Method} {c : Code} (h1 : s.methodNamed? y = some m) (h2 : s.vm.method? m = some meth) (h3 : meth.code = some c) (h4 : c.code = bytes)
    (h5 : (c.maxLocals == mx && c.exceptionTable.isEmpty && decide (c.maxStack ≤ mostOperands) && decide (meth.sig.returnType = rt) && !meth.locks && decide (parseMethodDescriptor y.desc = some meth.sig)) = true) : (Jvm.Cond.code y bytes mx rt).before a s = true := by
  simp only [Bool.and_eq_true, beq_iff_eq, Bool.not_eq_true', decide_eq_true_eq] at h5
  obtain ⟨⟨⟨⟨⟨g1, g2⟩, g3⟩, g4⟩, g5⟩, g6⟩ := h5
  simp [Cond.before, Cond.holds, Cond.value, h1, h2, h3, h4, g1, g2, g3, g4, g5, g6]
def isCode : Jvm.Cond → Bool
  | .code _ _ _ _ => true
  | _ => false
theorem all_split {L : List Jvm.Cond} {P : Jvm.Cond → Bool} (h1 : L.all (fun c => isCode c || P c) = true) (h2 : ∀ c ∈ L.filter isCode, P c = true) : L.all P = true := by
  refine List.all_eq_true.mpr fun c hc => ?_
  have h := List.all_eq_true.mp h1 c hc
  rcases Bool.eq_false_or_eq_true (isCode c) with hi | hi
  · exact h2 c (List.mem_filter.mpr ⟨hc, hi⟩)
  · simpa [hi] using h
set_option maxRecDepth 65536 in
theorem w_c0 : (Jvm.Cond.code x code maxLocals ret).before args0 about1 = true := code_word (m := ⟨1, 3⟩) (meth := k1m3) (c := k1c3) (by decide +kernel) rfl rfl rfl (by decide +kernel)
set_option maxRecDepth 65536 in
theorem w_c1 : (Jvm.Cond.code ({ cls := "com/example/oubliette/oubliette/engine/CardPlacePinLaw", name := "rankOf", desc := "(I)Lcom/example/oubliette/oubliette/engine/Rank;" } : Jvm.MethodName) method_2_code (1 : Nat) (Option.some (Jvm.ClassFile.FieldType.object "com/example/oubliette/oubliette/engine/Rank"))).before args0 about1 = true := code_word (m := ⟨1, 1⟩) (meth := k1m1) (c := k1c1) (by decide +kernel) rfl rfl rfl (by decide +kernel)
set_option maxRecDepth 65536 in
theorem w_c2 : (Jvm.Cond.code ({ cls := "com/example/oubliette/oubliette/engine/CardPlacePinLaw", name := "suitOf", desc := "(I)Lcom/example/oubliette/oubliette/engine/Suit;" } : Jvm.MethodName) method_3_code (1 : Nat) (Option.some (Jvm.ClassFile.FieldType.object "com/example/oubliette/oubliette/engine/Suit"))).before args0 about1 = true := code_word (m := ⟨1, 2⟩) (meth := k1m2) (c := k1c2) (by decide +kernel) rfl rfl rfl (by decide +kernel)
set_option maxRecDepth 65536 in
theorem w_c3 : (Jvm.Cond.code ({ cls := "com/example/oubliette/oubliette/engine/Card", name := "<init>", desc := "(Lcom/example/oubliette/oubliette/engine/Rank;Lcom/example/oubliette/oubliette/engine/Suit;)V" } : Jvm.MethodName) prog_3_method_1_code (3 : Nat) (Option.none : Option Jvm.ClassFile.FieldType)).before args0 about1 = true := code_word (m := ⟨3, 0⟩) (meth := k3m0) (c := k3c0) (by decide +kernel) rfl rfl rfl (by decide +kernel)
set_option maxRecDepth 65536 in
theorem w_c4 : (Jvm.Cond.code ({ cls := "java/lang/Record", name := "<init>", desc := "()V" } : Jvm.MethodName) jdk_30_method_1_code (1 : Nat) (Option.none : Option Jvm.ClassFile.FieldType)).before args0 about1 = true := code_word (m := ⟨2, 0⟩) (meth := k2m0) (c := k2c0) (by decide +kernel) rfl rfl rfl (by decide +kernel)
set_option maxRecDepth 65536 in
theorem w_c5 : (Jvm.Cond.code ({ cls := "java/lang/Object", name := "<init>", desc := "()V" } : Jvm.MethodName) object_method_1_code (1 : Nat) (Option.none : Option Jvm.ClassFile.FieldType)).before args0 about1 = true := code_word (m := ⟨0, 0⟩) (meth := k0m0) (c := k0c0) (by decide +kernel) rfl rfl rfl (by decide +kernel)
set_option maxRecDepth 65536 in
theorem w_c6 : (Jvm.Cond.code ({ cls := "java/util/Objects", name := "requireNonNull", desc := "(Ljava/lang/Object;Ljava/lang/String;)Ljava/lang/Object;" } : Jvm.MethodName) jdk_31_method_11_code (2 : Nat) (Option.some (Jvm.ClassFile.FieldType.object "java/lang/Object"))).before args0 about1 = true := code_word (m := ⟨13, 1⟩) (meth := k13m1) (c := k13c1) (by decide +kernel) rfl rfl rfl (by decide +kernel)
set_option maxRecDepth 65536 in
theorem w_c7 : (Jvm.Cond.code ({ cls := "com/example/oubliette/oubliette/engine/Card", name := "place", desc := "()I" } : Jvm.MethodName) prog_3_method_4_code (1 : Nat) (Option.some Jvm.ClassFile.FieldType.int)).before args0 about1 = true := code_word (m := ⟨3, 1⟩) (meth := k3m1) (c := k3c1) (by decide +kernel) rfl rfl rfl (by decide +kernel)
set_option maxRecDepth 65536 in
theorem w_c8 : (Jvm.Cond.code ({ cls := "java/lang/Enum", name := "ordinal", desc := "()I" } : Jvm.MethodName) jdk_37_method_2_code (1 : Nat) (Option.some Jvm.ClassFile.FieldType.int)).before args0 about1 = true := code_word (m := ⟨7, 0⟩) (meth := k7m0) (c := k7c0) (by decide +kernel) rfl rfl rfl (by decide +kernel)
def codes1 : List Jvm.Cond := [Jvm.Cond.code x code maxLocals ret, Jvm.Cond.code ({ cls := "com/example/oubliette/oubliette/engine/CardPlacePinLaw", name := "rankOf", desc := "(I)Lcom/example/oubliette/oubliette/engine/Rank;" } : Jvm.MethodName) method_2_code (1 : Nat) (Option.some (Jvm.ClassFile.FieldType.object "com/example/oubliette/oubliette/engine/Rank")), Jvm.Cond.code ({ cls := "com/example/oubliette/oubliette/engine/CardPlacePinLaw", name := "suitOf", desc := "(I)Lcom/example/oubliette/oubliette/engine/Suit;" } : Jvm.MethodName) method_3_code (1 : Nat) (Option.some (Jvm.ClassFile.FieldType.object "com/example/oubliette/oubliette/engine/Suit")), Jvm.Cond.code ({ cls := "com/example/oubliette/oubliette/engine/Card", name := "<init>", desc := "(Lcom/example/oubliette/oubliette/engine/Rank;Lcom/example/oubliette/oubliette/engine/Suit;)V" } : Jvm.MethodName) prog_3_method_1_code (3 : Nat) (Option.none : Option Jvm.ClassFile.FieldType), Jvm.Cond.code ({ cls := "java/lang/Record", name := "<init>", desc := "()V" } : Jvm.MethodName) jdk_30_method_1_code (1 : Nat) (Option.none : Option Jvm.ClassFile.FieldType), Jvm.Cond.code ({ cls := "java/lang/Object", name := "<init>", desc := "()V" } : Jvm.MethodName) object_method_1_code (1 : Nat) (Option.none : Option Jvm.ClassFile.FieldType), Jvm.Cond.code ({ cls := "java/util/Objects", name := "requireNonNull", desc := "(Ljava/lang/Object;Ljava/lang/String;)Ljava/lang/Object;" } : Jvm.MethodName) jdk_31_method_11_code (2 : Nat) (Option.some (Jvm.ClassFile.FieldType.object "java/lang/Object")), Jvm.Cond.code ({ cls := "com/example/oubliette/oubliette/engine/Card", name := "place", desc := "()I" } : Jvm.MethodName) prog_3_method_4_code (1 : Nat) (Option.some Jvm.ClassFile.FieldType.int), Jvm.Cond.code ({ cls := "java/lang/Enum", name := "ordinal", desc := "()I" } : Jvm.MethodName) jdk_37_method_2_code (1 : Nat) (Option.some Jvm.ClassFile.FieldType.int)]
set_option maxRecDepth 65536 in
theorem codes_eq : words1.filter isCode = codes1 := rfl
theorem w_codes : ∀ c ∈ words1.filter isCode, c.before args0 about1 = true := by
  rw [codes_eq]
  intro c hc
  simp only [codes1, List.mem_cons, List.not_mem_nil, or_false] at hc
  rcases hc with rfl | rfl | rfl | rfl | rfl | rfl | rfl | rfl | rfl
  · exact w_c0
  · exact w_c1
  · exact w_c2
  · exact w_c3
  · exact w_c4
  · exact w_c5
  · exact w_c6
  · exact w_c7
  · exact w_c8
set_option maxRecDepth 65536 in
theorem w_t1 : (words1.take 24).all (fun c => isCode c || c.before args0 about1) = true := by decide +kernel
set_option maxRecDepth 65536 in
theorem w_t2 : ((words1.drop 24).take 24).all (fun c => isCode c || c.before args0 about1) = true := by decide +kernel
set_option maxRecDepth 65536 in
theorem w_t3 : (((words1.drop 24).drop 24).take 24).all (fun c => isCode c || c.before args0 about1) = true := by decide +kernel
set_option maxRecDepth 65536 in
theorem w_t4 : (((words1.drop 24).drop 24).drop 24).all (fun c => isCode c || c.before args0 about1) = true := by decide +kernel
theorem w_tables : (allAtoms (Jvm.Cond.code x code maxLocals ret :: tables_1)).before args0 about1 = true := by
  rw [allAtoms_all]
  show words1.all (fun c => c.before args0 about1) = true
  refine all_split ?_ w_codes
  rw [← List.take_append_drop 24 words1, List.all_append, w_t1, ← List.take_append_drop 24 (words1.drop 24), List.all_append, w_t2, ← List.take_append_drop 24 ((words1.drop 24).drop 24), List.all_append, w_t3, w_t4]
  rfl
set_option maxRecDepth 65536 in
theorem w_case : (Jvm.Cond.and given_1 narrow_1).before args0 about1 = true := by decide +kernel
theorem w_applies : (headSpec (Jvm.Cond.code x code maxLocals ret :: tables_1) room_1).applies x e0.platform about1 = true :=
  (Spec.applies_iff w_frames).mpr ⟨w_running, w_runnable, w_alone, w_named, w_hears, w_ripe, w_room, w_tables⟩
theorem atStart : AtStart classFile x code maxLocals ret World_1 tables_1 room_1 Calls_1 rest_1 Pre_1 launch0 p0 e0 about1 theMethod args0 below0 :=
  ⟨lists_1, trivial, launch0.admits_env _ _ _, launch0.least_env, fairChoices_fair.cas, fairChoices_fair.clock, w_frames, w_args, w_heap, w_applies, trivial, trivial, w_case⟩
end start1
theorem witness_1 : WitnessClaimed_1 := ⟨start1.p0, start1.e0, start1.about1, start1.theMethod, start1.args0, start1.below0, start1.atStart⟩
end Jvm.Pilot.@@N@@
