import JvmDerived
import JvmDerived.Pilot.@@N@@Statement
import JvmDerived.Pilot.@@N@@Code
set_option linter.unusedVariables false
set_option linter.unusedSimpArgs false
namespace Jvm.Pilot.@@N@@
open Jvm Jvm.ClassFile Sem Op Lib Jvm.Free Jvm.Stand Jvm.LawKit Jvm.RoadKit Bundle Jvm.Pilot.@@N@@.Jvm.D
section Own
variable {p : Program} {l : Launch} {e : Env} {R : Room} {s : State} {m : MethodId} {args : Array Value} {below : List Frame} {meth : Method} {c : Code} {T : State} {locs : List Loc} {cells slots : Nat} {Z : State} {a0 : Array Value} {h : Heap} {Q : Option Value → Heap → List Loc → Prop} {C S : Nat} {u u' : State} {F : Outcome → State → List Loc → Prop}
/-- from u the invocation comes to its end, and Q holds of what it returns, of the heap and of the places written -/
def ownFin (p : Program) (e : Env) (below : List Frame) (F : Outcome → State → List Loc → Prop) (Q : Option Value → Heap → List Loc → Prop) (u : State) : Prop :=
  ∃ t o, Steps p.tables e below u t ∧ t.status = .running ∧ Ended t below o ∧ ∃ v L, o = .returned v ∧ Q v t.heap L ∧ F o t L
/-- how it ends: at most C new cells of S slots, the tables warmer, nothing old written but at the places L -/
def ownFE (s : State) (C S : Nat) : Outcome → State → List Loc → Prop := fun o t L => FrameEnd s o t L C S
theorem ownVia (f : ∀ t, Steps p.tables e below u' t → Steps p.tables e below u t) (k : ownFin p e below F Q u') : ownFin p e below F Q u := by
  obtain ⟨t, o, h1, r⟩ := k
  exact ⟨t, o, f t h1, r⟩
theorem ownRet (X : Stand p l e R s m args below meth c T locs cells slots) (hlk : meth.locks = false) {v : Option Value} (hv : meth.sig.returnType = none → v = none)
    (f : ∀ fs, (∀ (f : JFrame) (acts : List Action), f.method = m → f.locked = none → f.entered = [] → (doReturn e (T.setTop f) acts v).1 = T.setFrames fs) → Steps p.tables e below u (T.setFrames fs))
    (hC : cells ≤ C) (hS : slots ≤ S) (hQ : Q v T.heap locs) : ownFin p e below (ownFE s C S) Q u := by
  obtain ⟨fs, hr, hrun, hended, hW, hsame⟩ := X.leave (v := v) hv hlk
  exact ⟨_, _, f fs hr, hrun, hended, v, _, rfl, hQ, ⟨_, rfl⟩, hW, hsame.mono hC hS⟩
theorem ownRetI (X : Stand p l e R s m args below meth c T locs cells slots) (hx : p.tables.exec = Jvm.exec) (hlk : meth.locks = false) (hret : meth.sig.returnType = some .int) {pc : Nat} {Ls : Array Slot} {z : Int32} {rest : List Value} (hd : decode c.code pc = .ok (.ireturn, 1)) (hC : cells ≤ C) (hS : slots ≤ S) (hQ : Q (some (.int z)) T.heap locs) : ownFin p e below (ownFE s C S) Q (T.setTop (mkF m pc Ls (.int z :: rest))) :=
  ownRet X hlk (v := some (.int z)) (fun q => by rw [hret] at q; cases q) (fun fs hr => retOut X hx hret rfl (Or.inl ⟨rfl, Or.inl rfl, z, rfl⟩) hd hr) hC hS hQ
theorem ownRetZ (X : Stand p l e R s m args below meth c T locs cells slots) (hx : p.tables.exec = Jvm.exec) (hlk : meth.locks = false) (hret : meth.sig.returnType = some .boolean) {pc : Nat} {Ls : Array Slot} {z : Int32} {rest : List Value} (hd : decode c.code pc = .ok (.ireturn, 1)) (hC : cells ≤ C) (hS : slots ≤ S) (hz : z = 0 ∨ z = 1) (hQ : Q (some (.int z)) T.heap locs) : ownFin p e below (ownFE s C S) Q (T.setTop (mkF m pc Ls (.int z :: rest))) :=
  ownRet X hlk (v := some (.int z)) (fun q => by rw [hret] at q; cases q) (fun fs hr => retOut X hx hret (by rcases hz with rfl | rfl <;> rfl) (Or.inl ⟨rfl, Or.inr (Or.inl rfl), z, rfl⟩) hd hr) hC hS hQ
theorem ownRetJ (X : Stand p l e R s m args below meth c T locs cells slots) (hx : p.tables.exec = Jvm.exec) (hlk : meth.locks = false) (hret : meth.sig.returnType = some .long) {pc : Nat} {Ls : Array Slot} {z : Int64} {rest : List Value} (hd : decode c.code pc = .ok (.lreturn, 1)) (hC : cells ≤ C) (hS : slots ≤ S) (hQ : Q (some (.long z)) T.heap locs) : ownFin p e below (ownFE s C S) Q (T.setTop (mkF m pc Ls (.long z :: rest))) :=
  ownRet X hlk (v := some (.long z)) (fun q => by rw [hret] at q; cases q) (fun fs hr => retOut X hx hret rfl (Or.inr (Or.inl ⟨rfl, rfl, z, rfl⟩)) hd hr) hC hS hQ
theorem ownRetA (X : Stand p l e R s m args below meth c T locs cells slots) (hx : p.tables.exec = Jvm.exec) (hlk : meth.locks = false) {ty : FieldType} (hret : meth.sig.returnType = some ty) (hty : ty.isReference = true) {pc : Nat} {Ls : Array Slot} {a : Addr} {rest : List Value} (hd : decode c.code pc = .ok (.areturn, 1)) (hC : cells ≤ C) (hS : slots ≤ S) (hQ : Q (some (.ref a)) T.heap locs) : ownFin p e below (ownFE s C S) Q (T.setTop (mkF m pc Ls (.ref a :: rest))) :=
  ownRet X hlk (v := some (.ref a)) (fun q => by rw [hret] at q; cases q) (fun fs hr => retOut X hx hret (by cases ty <;> first | rfl | cases hty) (Or.inr (Or.inr (Or.inr (Or.inr ⟨rfl, hty, rfl⟩)))) hd hr) hC hS hQ
theorem ownRetV (X : Stand p l e R s m args below meth c T locs cells slots) (hx : p.tables.exec = Jvm.exec) (hlk : meth.locks = false) (hret : meth.sig.returnType = none) {pc : Nat} {Ls : Array Slot} (hd : decode c.code pc = .ok (.return_, 1)) (hC : cells ≤ C) (hS : slots ≤ S) (hQ : Q none T.heap locs) : ownFin p e below (ownFE s C S) Q (T.setTop (mkF m pc Ls [])) :=
  ownRet X hlk (v := none) (fun _ => rfl) (fun fs hr => X.returnOut hx hret hd hr) hC hS hQ
/-- the contract of a method at given arguments and a given heap -/
abbrev ownMet (l : Launch) (Z : State) (y : MethodName) (bytes : ByteArray) (maxL : Nat) (ret : Option FieldType) (ws : List Jvm.Cond) (rm : Room) (as' : Array Value) (h0 : Heap) (Q : Option Value → Heap → List Loc → Prop) : Prop :=
  MetFree l y (head1 (Jvm.Cond.code y bytes maxL ret :: ws) rm) (fun a U => a = as' ∧ Z.Warmed39 U.vm ∧ U.heap = h0) (fun _ _ _ _ _ => True) (fun _ U o U' => ∃ v L, o = .returned v ∧ Q v U'.heap L ∧ FrameEnd U o U' L rm.cells rm.slots)
theorem ownBody {y : MethodName} {bytes : ByteArray} {maxL : Nat} {ret : Option FieldType} {ws : List Jvm.Cond} {rm : Room} {as' : Array Value} {h0 : Heap} (hpl : plainFor y = true)
    (H : ∀ (p : Program) (e : Env) (s : State) (m : MethodId) (below : List Frame) (meth : Method) (c : Code) (T : State), p.tables.exec = Jvm.exec → c.code = bytes → c.maxLocals = maxL → meth.sig.returnType = ret → meth.locks = false → Z.Warmed39 s.vm → s.vm.findClass y.cls = some m.cls → meth.name = y.name →
      Stand p l e rm s m as' below meth c T [] 0 0 → T.heap = h0 → ownFin p e below (ownFE s rm.cells rm.slots) Q (T.setTop (entryFrame m as' maxL))) : ownMet l Z y bytes maxL ret ws rm as' h0 Q := by
  refine MetFree.of_bodySF hpl hisR ?_
  intro p e s m args below meth c s₁ Bd hml0 hP hK
  obtain ⟨rfl, hZ, hh⟩ := hP
  exact H p e s m below meth c s₁ Bd.exec Bd.bytes hml0 Bd.returns Bd.notSynchronized hZ (findClass_of_methodNamed Bd.named) (name_of_methodNamed Bd.named Bd.method).1 (Stand.of_body Bd) (by rw [← hh, Bd.state]; rfl)
theorem ownCallS {own : String} {index : Nat} {y : MethodName} {bytes : ByteArray} {maxL : Nat} {ret : Option FieldType} {rm : Room} {as' : Array Value} {Q' : Option Value → Heap → List Loc → Prop}
    (X : Stand p l e R s m args below meth c T locs cells slots) (hx : p.tables.exec = Jvm.exec) (hZ : Z.Warmed39 s.vm) (hown : s.vm.findClass own = some m.cls)
    (w1 : (Jvm.Cond.methodLink own index y).before a0 Z = true) (w2 : (Jvm.Cond.static y).before a0 Z = true) (w3 : (Jvm.Cond.initialized y.cls).before a0 Z = true) (w4 : (Jvm.Cond.code y bytes maxL ret).before a0 Z = true)
    (hy : y.cls ≠ "java/lang/invoke/MethodHandle" ∧ y.cls ≠ "java/lang/invoke/VarHandle") (eT : T.heap = h) (hM : ownMet l Z y bytes maxL ret [] rm as' h Q')
    {pc : Nat} {Ls : Array Slot} {st : List Value} (hsz : Ls.size = c.maxLocals) (argsL rest : List Value) (hlen : ∀ sig, parseMethodDescriptor y.desc = some sig → argsL.length = sig.parameters.length)
    (hst : st = argsL.reverse ++ rest) (has : argsL.toArray = as') (W : Nat) (hW : (rest.map fun v => v.category).sum = W) (hd : decode c.code pc = .ok (.invokestatic index, 3))
    (hfr : rm.frames + 1 ≤ R.frames) (hlo : W + (maxL + 11) + rm.locals ≤ R.locals) (hce : cells + rm.cells ≤ R.cells) (hsl : slots + rm.slots ≤ R.slots)
    (K : ∀ v T' L', Stand p l e R s m args below meth c T' (locs ++ L') (cells + rm.cells) (slots + rm.slots) → Q' v T'.heap L' → ownFin p e below F Q (T'.setTop (mkF m (pc + 3) Ls (v.toList ++ rest)))) :
    ownFin p e below F Q (T.setTop (mkF m pc Ls st)) := by
  obtain ⟨v, _, ⟨T2, L2, k2, n2⟩, -, X2, ⟨Lc2, hQ2, l2, y2, z2⟩, st2⟩ := Jvm.LawKit.callS X hx (y := y) hown (mvT hZ w1) (mvT hZ w2) (mvT hZ w3) (mvT hZ w4) hy (backOf (W := W) hM hZ w4 w3 hfr hlo) (g := mkF m pc Ls st) rfl hsz (argsL := argsL) (rest := rest) hlen hst (by show 2 * 0 + _ ≤ _; omega) hd (fun _ _ => ⟨has, eT, hce, hsl⟩)
  dsimp only [Pt.U, Pt.locs, Pt.cells, Pt.slots] at X2 l2 y2 z2 st2 hQ2
  subst l2 y2 z2
  exact ownVia st2 (K v T2 Lc2 X2 hQ2)
theorem ownCallN {own : String} {index : Nat} {y : MethodName} {bytes : ByteArray} {maxL : Nat} {rm : Room} {as' : Array Value} {Q' : Option Value → Heap → List Loc → Prop}
    (X : Stand p l e R s m args below meth c T locs cells slots) (hx : p.tables.exec = Jvm.exec) (hZ : Z.Warmed39 s.vm) (hown : s.vm.findClass own = some m.cls) (hy1 : y.name = "<init>")
    (w1 : (Jvm.Cond.methodLink own index y).before a0 Z = true) (w2 : (Jvm.Cond.instanceMethod y).before a0 Z = true) (w3 : (Jvm.Cond.initialized y.cls).before a0 Z = true) (w4 : (Jvm.Cond.code y bytes maxL none).before a0 Z = true)
    (hy : y.cls ≠ "java/lang/invoke/MethodHandle" ∧ y.cls ≠ "java/lang/invoke/VarHandle") (eT : T.heap = h) (hM : ownMet l Z y bytes maxL none [] rm as' h Q')
    {pc : Nat} {Ls : Array Slot} {st : List Value} (hsz : Ls.size = c.maxLocals) (a : Addr) (argsL rest : List Value) (hlen : ∀ sig, parseMethodDescriptor y.desc = some sig → argsL.length = sig.parameters.length)
    (hst : st = argsL.reverse ++ .ref a :: rest) (has : (Value.ref a :: argsL).toArray = as') (W : Nat) (hW : (rest.map fun v => v.category).sum = W) (hd : decode c.code pc = .ok (.invokespecial index, 3))
    (hfr : rm.frames + 1 ≤ R.frames) (hlo : W + (maxL + 11) + rm.locals ≤ R.locals) (hce : cells + rm.cells ≤ R.cells) (hsl : slots + rm.slots ≤ R.slots)
    (K : ∀ v T' L', Stand p l e R s m args below meth c T' (locs ++ L') (cells + rm.cells) (slots + rm.slots) → Q' v T'.heap L' → ownFin p e below F Q (T'.setTop (mkF m (pc + 3) Ls (v.toList ++ rest)))) :
    ownFin p e below F Q (T.setTop (mkF m pc Ls st)) := by
  obtain ⟨v, _, ⟨T2, L2, k2, n2⟩, -, X2, ⟨Lc2, hQ2, l2, y2, z2⟩, st2⟩ := X.specialBack hx (y := y) hy1 hown (mvT hZ w1) (mvT hZ w2) (mvT hZ w4) hy (backOf (W := W) hM hZ w4 w3 hfr hlo) (g := mkF m pc Ls st) rfl hsz (Steps.refl _) (a := a) (argsL := argsL) (rest := rest) hlen hst (by show 2 * 0 + _ ≤ _; omega) hd (fun _ _ => ⟨has, eT, hce, hsl⟩)
  dsimp only [Pt.U, Pt.locs, Pt.cells, Pt.slots] at X2 l2 y2 z2 st2 hQ2
  subst l2 y2 z2
  exact ownVia (fun _ k => st2.trans k) (K v T2 Lc2 X2 hQ2)
theorem ownCallV {own C' : String} {index : Nat} {y z : MethodName} {bytes : ByteArray} {maxL : Nat} {ret : Option FieldType} {rm : Room} {as' : Array Value} {Q' : Option Value → Heap → List Loc → Prop}
    (X : Stand p l e R s m args below meth c T locs cells slots) (hx : p.tables.exec = Jvm.exec) (hZ : Z.Warmed39 s.vm) (hown : s.vm.findClass own = some m.cls)
    (w1 : (Jvm.Cond.methodLink own index y).before a0 Z = true) (w2 : (Jvm.Cond.declares y).before a0 Z = true) (w5 : (Jvm.Cond.selects y.cls y y).before a0 Z = true) (w6 : (Jvm.Cond.selects C' y z).before a0 Z = true) (w7 : (Jvm.Cond.instanceMethod z).before a0 Z = true) (w3 : (Jvm.Cond.initialized z.cls).before a0 Z = true) (w4 : (Jvm.Cond.code z bytes maxL ret).before a0 Z = true)
    (hy : y.cls ≠ "java/lang/invoke/MethodHandle" ∧ y.cls ≠ "java/lang/invoke/VarHandle") (eT : T.heap = h) {a : Addr} (E : Exa Z h a C') (hM : ownMet l Z z bytes maxL ret [] rm as' h Q')
    {pc : Nat} {Ls : Array Slot} {st : List Value} (hsz : Ls.size = c.maxLocals) (argsL rest : List Value) (hlen : ∀ sig, parseMethodDescriptor y.desc = some sig → argsL.length = sig.parameters.length)
    (hst : st = argsL.reverse ++ .ref a :: rest) (has : (Value.ref a :: argsL).toArray = as') (W : Nat) (hW : (rest.map fun v => v.category).sum = W) (hd : decode c.code pc = .ok (.invokevirtual index, 3))
    (hfr : rm.frames + 1 ≤ R.frames) (hlo : W + (maxL + 11) + rm.locals ≤ R.locals) (hce : cells + rm.cells ≤ R.cells) (hsl : slots + rm.slots ≤ R.slots)
    (K : ∀ v T' L', Stand p l e R s m args below meth c T' (locs ++ L') (cells + rm.cells) (slots + rm.slots) → Q' v T'.heap L' → ownFin p e below F Q (T'.setTop (mkF m (pc + 3) Ls (v.toList ++ rest)))) :
    ownFin p e below F Q (T.setTop (mkF m pc Ls st)) := by
  obtain ⟨cq, kq, qa, qb, qc⟩ := isOf hZ eT E
  obtain ⟨v, _, ⟨T2, L2, k2, n2⟩, -, X2, ⟨Lc2, hQ2, l2, y2, z2⟩, st2⟩ := X.virtualBack hx (y := y) (z := z) hown (mvT hZ w1) (mvT hZ w2) (notFace_of_selects (args := #[]) (mvT hZ w5)) (mvT hZ w6) (mvT hZ w7) hy (backOf (W := W) hM hZ w4 w3 hfr hlo) qa qc (g := mkF m pc Ls st) rfl hsz (Steps.refl _) (argsL := argsL) (rest := rest) hlen hst (by show 2 * 0 + _ ≤ _; omega) hd (fun _ _ => ⟨has, eT, hce, hsl⟩)
  dsimp only [Pt.U, Pt.locs, Pt.cells, Pt.slots] at X2 l2 y2 z2 st2 hQ2
  subst l2 y2 z2
  exact ownVia (fun _ k => st2.trans k) (K v T2 Lc2 X2 hQ2)
theorem ownLen {a : Addr} {k : ClassId} {ty : FieldType} {z : Int32} {vs : List Value} {dv : Value} (X : Stand p l e R s m args below meth c T locs cells slots) (hx : p.tables.exec = Jvm.exec) (hZ : Z.Warmed39 s.vm) (eT : T.heap = h) (A : Arv Z h a k ty z vs dv) {pc : Nat} {Ls : Array Slot} {rest : List Value} (hd : decode c.code pc = .ok (.arraylength, 1))
    (K : ownFin p e below F Q (T.setTop (mkF m (pc + 1) Ls (.int z :: rest)))) : ownFin p e below F Q (T.setTop (mkF m pc Ls (.ref a :: rest))) := by
  obtain ⟨cl, Ar, -, Sz, Nz, -, -⟩ := A
  rw [← len_of Sz Nz] at K
  exact ownVia (fun t k => X.arraylength hx (by rw [eT]; exact Ar.1) (State.isArrayOf_alike hZ.alike Ar.2.1) (g := mkF m pc Ls (.ref a :: rest)) rfl rfl hd t k) K
theorem ownBaload {a : Addr} {k : ClassId} {z j : Int32} {vs : List Value} {dv v : Value} (X : Stand p l e R s m args below meth c T locs cells slots) (hx : p.tables.exec = Jvm.exec) (hZ : Z.Warmed39 s.vm) (eT : T.heap = h) (A : Arv Z h a k .byte z vs dv) (hj : ¬ j < 0 ∧ j < z) (hv : vs.getD j.toNatClampNeg dv = v) {pc : Nat} {Ls : Array Slot} {rest : List Value} (hd : decode c.code pc = .ok (.baload, 1))
    (K : ownFin p e below F Q (T.setTop (mkF m (pc + 1) Ls (v :: rest)))) : ownFin p e below F Q (T.setTop (mkF m pc Ls (.int j :: .ref a :: rest))) := by
  obtain ⟨cl, Ar, -, Sz, Nz, H, -⟩ := A
  have hin := inb_of Sz hj
  exact ownVia (fun t k => X.baloadBytes hx (by rw [eT]; exact Ar.1) (State.isArrayOf_alike hZ.alike Ar.2.1) Ar.2.2 hin (H.at hin hv) (g := mkF m pc Ls (.int j :: .ref a :: rest)) rfl rfl hd t k) K
theorem ownIaload {a : Addr} {k : ClassId} {z j : Int32} {vs : List Value} {dv v : Value} (X : Stand p l e R s m args below meth c T locs cells slots) (hx : p.tables.exec = Jvm.exec) (hZ : Z.Warmed39 s.vm) (eT : T.heap = h) (A : Arv Z h a k .int z vs dv) (hj : ¬ j < 0 ∧ j < z) (hv : vs.getD j.toNatClampNeg dv = v) {pc : Nat} {Ls : Array Slot} {rest : List Value} (hd : decode c.code pc = .ok (.iaload, 1))
    (K : ownFin p e below F Q (T.setTop (mkF m (pc + 1) Ls (v :: rest)))) : ownFin p e below F Q (T.setTop (mkF m pc Ls (.int j :: .ref a :: rest))) := by
  obtain ⟨cl, Ar, -, Sz, Nz, H, -⟩ := A
  have hin := inb_of Sz hj
  exact ownVia (fun t k => X.iaload hx (by rw [eT]; exact Ar.1) (State.isArrayOf_alike hZ.alike Ar.2.1) Ar.2.2 hin (H.at hin hv) (g := mkF m pc Ls (.int j :: .ref a :: rest)) rfl rfl hd t k) K
theorem ownLaload {a : Addr} {k : ClassId} {z j : Int32} {vs : List Value} {dv v : Value} (X : Stand p l e R s m args below meth c T locs cells slots) (hx : p.tables.exec = Jvm.exec) (hZ : Z.Warmed39 s.vm) (eT : T.heap = h) (A : Arv Z h a k .long z vs dv) (hj : ¬ j < 0 ∧ j < z) (hv : vs.getD j.toNatClampNeg dv = v) {pc : Nat} {Ls : Array Slot} {rest : List Value} (hd : decode c.code pc = .ok (.laload, 1))
    (K : ownFin p e below F Q (T.setTop (mkF m (pc + 1) Ls (v :: rest)))) : ownFin p e below F Q (T.setTop (mkF m pc Ls (.int j :: .ref a :: rest))) := by
  obtain ⟨cl, Ar, -, Sz, Nz, H, -⟩ := A
  have hin := inb_of Sz hj
  exact ownVia (fun t k => X.laload hx (by rw [eT]; exact Ar.1) (State.isArrayOf_alike hZ.alike Ar.2.1) Ar.2.2 hin (H.at hin hv) (g := mkF m pc Ls (.int j :: .ref a :: rest)) rfl rfl hd t k) K
theorem ownBastore {a : Addr} {k : ClassId} {z j x : Int32} {vs : List Value} {dv : Value} {n0 : Nat} (X : Stand p l e R s m args below meth c T locs cells slots) (hx : p.tables.exec = Jvm.exec) (hZ : Z.Warmed39 s.vm) (eT : T.heap = h) (A : Arv Z h a k .byte z vs dv) (hj : ¬ j < 0 ∧ j < z) (i : Nat) (hi : j.toNatClampNeg = i) (hl : i < vs.length) (N : Fr n0 locs) (ge : n0 ≤ a) {pc : Nat} {Ls : Array Slot} {rest : List Value} (hd : decode c.code pc = .ok (.bastore, 1))
    (K : ∀ T' h' L', Stand p l e R s m args below meth c T' L' cells slots → T'.heap = h' → Fr n0 L' → Wr h h' a i (.int (nar .byte x)) → Arv Z h' a k .byte z (vs.set i (.int (nar .byte x))) dv → ownFin p e below F Q (T'.setTop (mkF m (pc + 1) Ls rest))) :
    ownFin p e below F Q (T.setTop (mkF m pc Ls (.int x :: .int j :: .ref a :: rest))) := by
  obtain ⟨cl, Ar, q1, Sz, Nz, H, G⟩ := A
  obtain ⟨T', h', X', e', W, st⟩ := stB X hx hZ eT Ar (j := j) (x := x) (inb_of Sz hj) (g := mkF m pc Ls (.int x :: .int j :: .ref a :: rest)) rfl rfl hd
  have N' := Fr.snoc X' N ge
  have A' := Arv.set Ar q1 Sz Nz H G (fits_nar_byte x) W i hi hl
  rw [hi] at W
  exact ownVia st (K T' h' _ X' e' N' W A')
theorem ownIastore {a : Addr} {k : ClassId} {z j x : Int32} {vs : List Value} {dv : Value} {n0 : Nat} (X : Stand p l e R s m args below meth c T locs cells slots) (hx : p.tables.exec = Jvm.exec) (hZ : Z.Warmed39 s.vm) (eT : T.heap = h) (A : Arv Z h a k .int z vs dv) (hj : ¬ j < 0 ∧ j < z) (i : Nat) (hi : j.toNatClampNeg = i) (hl : i < vs.length) (N : Fr n0 locs) (ge : n0 ≤ a) {pc : Nat} {Ls : Array Slot} {rest : List Value} (hd : decode c.code pc = .ok (.iastore, 1))
    (K : ∀ T' h' L', Stand p l e R s m args below meth c T' L' cells slots → T'.heap = h' → Fr n0 L' → Wr h h' a i (.int x) → Arv Z h' a k .int z (vs.set i (.int x)) dv → ownFin p e below F Q (T'.setTop (mkF m (pc + 1) Ls rest))) :
    ownFin p e below F Q (T.setTop (mkF m pc Ls (.int x :: .int j :: .ref a :: rest))) := by
  obtain ⟨cl, Ar, q1, Sz, Nz, H, G⟩ := A
  obtain ⟨T', h', X', e', W, st⟩ := stI X hx hZ eT Ar (j := j) (x := x) (inb_of Sz hj) (g := mkF m pc Ls (.int x :: .int j :: .ref a :: rest)) rfl rfl hd
  have N' := Fr.snoc X' N ge
  have A' := Arv.set Ar q1 Sz Nz H G rfl W i hi hl
  rw [hi] at W
  exact ownVia st (K T' h' _ X' e' N' W A')
theorem ownLastore {a : Addr} {k : ClassId} {z j : Int32} {x : Int64} {vs : List Value} {dv : Value} {n0 : Nat} (X : Stand p l e R s m args below meth c T locs cells slots) (hx : p.tables.exec = Jvm.exec) (hZ : Z.Warmed39 s.vm) (eT : T.heap = h) (A : Arv Z h a k .long z vs dv) (hj : ¬ j < 0 ∧ j < z) (i : Nat) (hi : j.toNatClampNeg = i) (hl : i < vs.length) (N : Fr n0 locs) (ge : n0 ≤ a) {pc : Nat} {Ls : Array Slot} {rest : List Value} (hd : decode c.code pc = .ok (.lastore, 1))
    (K : ∀ T' h' L', Stand p l e R s m args below meth c T' L' cells slots → T'.heap = h' → Fr n0 L' → Wr h h' a i (.long x) → Arv Z h' a k .long z (vs.set i (.long x)) dv → ownFin p e below F Q (T'.setTop (mkF m (pc + 1) Ls rest))) :
    ownFin p e below F Q (T.setTop (mkF m pc Ls (.long x :: .int j :: .ref a :: rest))) := by
  obtain ⟨cl, Ar, q1, Sz, Nz, H, G⟩ := A
  obtain ⟨T', h', X', e', W, st⟩ := stJ X hx hZ eT Ar (j := j) (x := x) (inb_of Sz hj) (g := mkF m pc Ls (.long x :: .int j :: .ref a :: rest)) rfl rfl hd
  have N' := Fr.snoc X' N ge
  have A' := Arv.set Ar q1 Sz Nz H G rfl W i hi hl
  rw [hi] at W
  exact ownVia st (K T' h' _ X' e' N' W A')
theorem ownNewP {aty : ArrayType} {n : Int32} (X : Stand p l e R s m args below meth c T locs cells slots) (hx : p.tables.exec = Jvm.exec) (hZ : Z.Warmed39 s.vm) (w : (Jvm.Cond.arrayClass (newarray.typeOf aty)).before a0 Z = true) (eT : T.heap = h) (ad : String) (had : "[" ++ (newarray.typeOf aty).toString = ad) (hn : ¬ n < 0) (N : Nat) (hN : n.toNatClampNeg = N) (cap : Nat) (hcap : N ≤ cap) (hb : cap * 8 ≤ 536870912) (hc : cells + 1 ≤ R.cells) (hl : slots + cap ≤ R.slots)
    {pc : Nat} {Ls : Array Slot} {rest : List Value} (hd : decode c.code pc = .ok (.newarray aty, 2))
    (K : ∀ T' h' k a, a = h.size → Stand p l e R s m args below meth c T' locs (cells + 1) (slots + cap) → T'.heap = h' → Ext h h' → Arv Z h' a k (newarray.typeOf aty) n (List.replicate N (defaultValue (newarray.typeOf aty))) (defaultValue (newarray.typeOf aty)) → Exa Z h' a ad → ownFin p e below F Q (T'.setTop (mkF m (pc + 2) Ls (.ref a :: rest)))) :
    ownFin p e below F Q (T.setTop (mkF m pc Ls (.int n :: rest))) := by
  obtain ⟨T', h', k, X', e', E, A, Ex, st⟩ := newPE X hx hZ w eT (g := mkF m pc Ls (.int n :: rest)) rfl hd rfl hn (cap := cap) (by rw [hN]; exact hcap) hb hc hl had
  exact ownVia st (K T' h' k _ rfl X' e' E ((Arv.new A hn).pad (pad_rep [] _ _)) Ex)
theorem ownClone {own : String} {index : Nat} {a : Addr} {k : ClassId} {ty : FieldType} {z : Int32} {vs : List Value} {dv : Value} {ad : String} (X : Stand p l e R s m args below meth c T locs cells slots) (hx : p.tables.exec = Jvm.exec) (hZ : Z.Warmed39 s.vm) (hown : s.vm.findClass own = some m.cls)
    (w1 : (Jvm.Cond.methodLink own index ⟨ad, "clone", "()Ljava/lang/Object;"⟩).before a0 Z = true) (w2 : (Jvm.Cond.sameMethod ad "java/lang/Object" "clone" "()Ljava/lang/Object;").before a0 Z = true) (w3 : (Jvm.Cond.native ⟨"java/lang/Object", "clone", "()Ljava/lang/Object;"⟩).before a0 Z = true)
    (w4 : (Jvm.Cond.instanceMethod ⟨"java/lang/Object", "clone", "()Ljava/lang/Object;"⟩).before a0 Z = true) (w5 : (Jvm.Cond.selects ad ⟨ad, "clone", "()Ljava/lang/Object;"⟩ ⟨"java/lang/Object", "clone", "()Ljava/lang/Object;"⟩).before a0 Z = true) (w6 : (Jvm.Cond.castable ad "java/lang/Cloneable").before a0 Z = true)
    (eT : T.heap = h) (A : Arv Z h a k ty z vs dv) (E : Exa Z h a ad) {pc : Nat} {Ls : Array Slot} {rest : List Value} (hsz : Ls.size = c.maxLocals) (hd : decode c.code pc = .ok (.invokevirtual index, 3)) (hf : 1 ≤ R.frames) (W : Nat) (hW : (rest.map fun v => v.category).sum = W) (hlo : W + 14 ≤ R.locals) (cap : Nat) (hcap : z.toNatClampNeg ≤ cap) (hc : cells + 1 ≤ R.cells) (hsl : slots + cap ≤ R.slots)
    (K : ∀ T' h' b, b = h.size → Stand p l e R s m args below meth c T' locs (cells + 1) (slots + cap) → T'.heap = h' → Ext h h' → Arv Z h' b k ty z vs dv → Exa Z h' b ad → ownFin p e below F Q (T'.setTop (mkF m (pc + 3) Ls (.ref b :: rest)))) :
    ownFin p e below F Q (T.setTop (mkF m pc Ls (.ref a :: rest))) := by
  obtain ⟨T', h', X', e', Ex, A', E', st⟩ := cloneH X hx hZ hown w1 w2 w3 w4 w5 w6 eT A.arh E (g := mkF m pc Ls (.ref a :: rest)) rfl hsz rfl hd hf (W := W) (by show 2 * 0 + _ ≤ _; omega) hlo hcap hc hsl
  exact ownVia st (K T' h' _ rfl X' e' Ex A' E')
theorem ownCallP {own : String} {index : Nat} {y y2 : MethodName} {bytes : ByteArray} {maxL : Nat} {ret : Option FieldType} {rm : Room} {as' : Array Value} {Q' : Option Value → Heap → List Loc → Prop} {C' : String}
    (X : Stand p l e R s m args below meth c T locs cells slots) (hx : p.tables.exec = Jvm.exec) (hZ : Z.Warmed39 s.vm) (hown : s.vm.findClass own = some m.cls)
    (w1 : (Jvm.Cond.methodLink own index y).before a0 Z = true) (w2 : (Jvm.Cond.privateMethod y).before a0 Z = true) (w5 : (Jvm.Cond.selects y2.cls y2 y2).before a0 Z = true) (hc2 : y2.cls = y.cls) (w7 : (Jvm.Cond.instanceMethod y).before a0 Z = true) (w3 : (Jvm.Cond.initialized y.cls).before a0 Z = true) (w4 : (Jvm.Cond.code y bytes maxL ret).before a0 Z = true)
    (hy : y.cls ≠ "java/lang/invoke/MethodHandle" ∧ y.cls ≠ "java/lang/invoke/VarHandle") (eT : T.heap = h) {a : Addr} (E : Exa Z h a C') (hM : ownMet l Z y bytes maxL ret [] rm as' h Q')
    {pc : Nat} {Ls : Array Slot} {st : List Value} (hsz : Ls.size = c.maxLocals) (argsL rest : List Value) (hlen : ∀ sig, parseMethodDescriptor y.desc = some sig → argsL.length = sig.parameters.length)
    (hst : st = argsL.reverse ++ .ref a :: rest) (has : (Value.ref a :: argsL).toArray = as') (W : Nat) (hW : (rest.map fun v => v.category).sum = W) (hd : decode c.code pc = .ok (.invokevirtual index, 3))
    (hfr : rm.frames + 1 ≤ R.frames) (hlo : W + (maxL + 11) + rm.locals ≤ R.locals) (hce : cells + rm.cells ≤ R.cells) (hsl : slots + rm.slots ≤ R.slots)
    (K : ∀ v T' L', Stand p l e R s m args below meth c T' (locs ++ L') (cells + rm.cells) (slots + rm.slots) → Q' v T'.heap L' → ownFin p e below F Q (T'.setTop (mkF m (pc + 3) Ls (v.toList ++ rest)))) :
    ownFin p e below F Q (T.setTop (mkF m pc Ls st)) := by
  have hpriv : s.PrivateAt y := Cond.privateMethod_at (mvP hZ w2 (args := #[]))
  have hsel2 : (Jvm.Cond.selects y2.cls y2 y2).before args s = true := mvT hZ w5
  obtain ⟨c2, r2, m2, q1, q2, q3, q4, kP, hkP, hkPi⟩ := Cond.selects_spec hsel2
  have hf2 := findClass_of_methodNamed q3
  rw [hc2] at hf2
  have hsel : (Jvm.Cond.selects y.cls y y).before args s = true := selects_self_of_private hf2 hkP hkPi hpriv (mvT hZ w7) hy
  obtain ⟨cq, qc1, qc2⟩ := E.cell
  obtain ⟨v, _, ⟨T2, L2, k2, n2⟩, -, X2, ⟨Lc2, hQ2, l2, y2', z2⟩, st2⟩ := X.privateBack hx (y := y) hown (mvT hZ w1) (mvT hZ w7) hsel hpriv (mvT hZ w4) hy (backOf (W := W) hM hZ w4 w3 hfr hlo) (g := mkF m pc Ls st) rfl hsz (Steps.refl _) (a := a) (by rw [eT]; exact qc1) qc2 (argsL := argsL) (rest := rest) hlen hst (by show 2 * 0 + _ ≤ _; omega) hd (fun _ _ => ⟨has, eT, hce, hsl⟩)
  dsimp only [Pt.U, Pt.locs, Pt.cells, Pt.slots] at X2 l2 y2' z2 st2 hQ2
  subst l2 y2' z2
  exact ownVia (fun _ k => st2.trans k) (K v T2 Lc2 X2 hQ2)
theorem ownCast {own K' : String} {index : Nat} {a : Addr} (X : Stand p l e R s m args below meth c T locs cells slots) (hx : p.tables.exec = Jvm.exec) (hZ : Z.Warmed39 s.vm) (hown : s.vm.findClass own = some m.cls) (w : (Jvm.Cond.classLink own index K').before a0 Z = true) (eT : T.heap = h) (FI : Ins Z h a K' true) {pc : Nat} {Ls : Array Slot} {rest : List Value} (hd : decode c.code pc = .ok (.checkcast index, 3))
    (K : ∀ T', Stand p l e R s m args below meth c T' locs cells slots → T'.heap = h → ownFin p e below F Q (T'.setTop (mkF m (pc + 3) Ls (.ref a :: rest)))) : ownFin p e below F Q (T.setTop (mkF m pc Ls (.ref a :: rest))) := by
  obtain ⟨T', X', e', st⟩ := castY X hx hZ hown w eT FI (g := mkF m pc Ls (.ref a :: rest)) rfl rfl hd
  exact ownVia st (K T' X' e')
theorem own_clamp {j : Int32} {n : Nat} (h : j.toInt = (n : Int)) : j.toNatClampNeg = n := by
  show j.toInt.toNat = n
  rw [h]; rfl
theorem own_nneg {j : Int32} {n : Nat} (h : j.toInt = (n : Int)) : ¬ j < 0 := fun q => by
  have := Int32.lt_iff_toInt_lt.mp q
  have k0 : (0 : Int32).toInt = 0 := by decide
  omega
theorem ownCopy {own : String} {index : Nat} {a b : Addr} {k k' : ClassId} {ty : FieldType} {z z' sp dp nn : Int32} {vs vd : List Value} {dv dd : Value} {n0 : Nat} (X : Stand p l e R s m args below meth c T locs cells slots) (hx : p.tables.exec = Jvm.exec) (hZ : Z.Warmed39 s.vm) (hown : s.vm.findClass own = some m.cls)
    (w1 : (Jvm.Cond.methodLink own index Jvm.Stand.acN).before a0 Z = true) (w2 : (Jvm.Cond.native Jvm.Stand.acN).before a0 Z = true) (w3 : (Jvm.Cond.static Jvm.Stand.acN).before a0 Z = true) (w4 : (Jvm.Cond.initialized "java/lang/System").before a0 Z = true) (eT : T.heap = h)
    (A : Arv Z h a k ty z vs dv) (B : Arv Z h b k' ty z' vd dd) (hty : refKind ty = false) (i j n lz lz' : Nat) (hi : sp.toInt = (i : Int)) (hj : dp.toInt = (j : Int)) (hn : nn.toInt = (n : Int)) (hz : z.toInt = (lz : Int)) (hz' : z'.toInt = (lz' : Int)) (h4 : i + n ≤ lz) (h5 : j + n ≤ lz') (hl : j + n ≤ vd.length) (N : Fr n0 locs) (ge : n0 ≤ b)
    {pc : Nat} {Ls : Array Slot} {rest : List Value} (hsz : Ls.size = c.maxLocals) (hd : decode c.code pc = .ok (.invokestatic index, 3)) (hf : 1 ≤ R.frames) (W : Nat) (hW : (rest.map fun v => v.category).sum = W) (hlo : W + (nativeFrameWords "java/lang/System" "arraycopy" 5 + 11) ≤ R.locals)
    (K : ∀ T' h' L', Stand p l e R s m args below meth c T' L' cells slots → T'.heap = h' → Fr n0 L' → Keep h h' [b] → Arv Z h' b k' ty z' (vd.take j ++ ((List.range n).map fun x => vs.getD (i + x) dv) ++ vd.drop (j + n)) dd → ownFin p e below F Q (T'.setTop (mkF m (pc + 3) Ls rest))) :
    ownFin p e below F Q (T.setTop (mkF m pc Ls (.int nn :: .int dp :: .ref b :: .int sp :: .ref a :: rest))) := by
  have e1 := own_clamp hi
  have e2 := own_clamp hj
  have e3 := own_clamp hn
  have e4 := own_clamp hz
  have e5 := own_clamp hz'
  obtain ⟨T', h', L', X', e', N', K', B', st⟩ := cpA X hx hZ hown w1 w2 w3 w4 eT A B (Or.inl ⟨rfl, hty⟩) (own_nneg hi) (own_nneg hj) (own_nneg hn) (by omega) (by omega) rfl (by omega) N ge (g := mkF m pc Ls (.int nn :: .int dp :: .ref b :: .int sp :: .ref a :: rest)) rfl hsz rfl hd hf (W := W) (by show 2 * 0 + _ ≤ _; omega) hlo
  rw [e1, e2, e3] at B'
  exact ownVia st (K T' h' L' X' e' N' K' B')
theorem own_lti {a b : Int32} {x y : Int} (ha : a.toInt = x) (hb : b.toInt = y) : a < b ↔ x < y := by rw [Int32.lt_iff_toInt_lt, ha, hb]
theorem own_sub {a b : Int32} {i j : Nat} (ha : a.toInt = (i : Int)) (hb : b.toInt = (j : Int)) (h : j ≤ i) : (a - b).toInt = ((i - j : Nat) : Int) := by
  have h1 := c_isub a b
  have h2 := rng32 (a - b)
  have h3 := rng32 a
  have h4 := rng32 b
  omega
theorem own_add {a b : Int32} {i j : Nat} (ha : a.toInt = (i : Int)) (hb : b.toInt = (j : Int)) (h : i + j < 2147483648) : (a + b).toInt = ((i + j : Nat) : Int) := by
  have h1 := c_iadd a b
  have h2 := rng32 (a + b)
  omega
theorem own_nlt {a b : Int32} {i j : Int} (ha : a.toInt = i) (hb : b.toInt = j) (h : j ≤ i) : ¬ a < b := fun q => by
  have := (own_lti ha hb).mp q
  omega
theorem own_enum {args : Array Value} {C n d K : String} (hx : (Jvm.Cond.exactly (.static C n d) K).value args s none s [] = some true) (wi : (Jvm.Cond.initialized C).before args s = true) (wl : (Jvm.Cond.laysStatic C n d).before args s = true) :
    ∃ a, (Term.static C n d).eval args s none [] s = some (.ref a) ∧ Sta s s.heap C n d (.ref a) ∧ Exa s s.heap a K := by
  obtain ⟨a, ev⟩ := exa_v hx
  exact ⟨a, ev, Sta.start ev (Or.inr ⟨wi, wl⟩), Exa.start ev hx⟩
theorem own_eqv {args : Array Value} {t : Term} {k : Int32} (hf : (Jvm.Cond.eq t (.int k)).value args s none s [] = some true) : t.eval args s none [] s = some (.int k) := by
  cases hv : t.eval args s none [] s with
  | none => simp [Cond.value, hv] at hf
  | some v =>
    cases v <;> simp [Cond.value, hv, Term.eval] at hf
    rw [hf]
theorem own_efld {args : Array Value} {t : Term} {a : Addr} {C n d : String} {k : Int32} (ev : t.eval args s none [] s = some (.ref a)) (hf : (Jvm.Cond.eq (.field t C n d) (.int k)).value args s none s [] = some true) : Fld s s.heap a C n d (.int k) :=
  Fld.start ((fld_at ev).symm.trans (own_eqv hf))
theorem own_iff_f {A B P : Prop} (hA : ¬ A) (h : P ↔ A ∨ B) : P ↔ B := by simpa [hA] using h
theorem own_iff_t {A B P : Prop} (hA : A) (h : P ↔ A ∨ B) : P := h.mpr (Or.inl hA)
theorem own_ref_ne {a b : Addr} (h : a ≠ b) : ¬ (Value.ref a) = .ref b := fun q => h (by cases q; rfl)
theorem own_sz {n0 : Nat} {h' : Heap} (q : n0 ≤ h.size) (E : Ext h h') : n0 ≤ h'.size := Nat.le_trans q E.1
theorem own_szW {n0 : Nat} {h' : Heap} {a : Addr} {sl : Nat} {v : Value} (q : n0 ≤ h.size) (W : Wr h h' a sl v) : n0 ≤ h'.size := by rw [W.size]; exact q
theorem own_eqi {a b : Int32} {x y : Int} (ha : a.toInt = x) (hb : b.toInt = y) : a = b ↔ x = y := by rw [← Int32.toInt_inj, ha, hb]
theorem own_ltl {a b : Int64} {x y : Int} (ha : a.toInt = x) (hb : b.toInt = y) : a < b ↔ x < y := by rw [Int64.lt_iff_toInt_lt, ha, hb]
theorem own_eql {a b : Int64} {x y : Int} (ha : a.toInt = x) (hb : b.toInt = y) : a = b ↔ x = y := by rw [← Int64.toInt_inj, ha, hb]
theorem own_getD_map {α β : Type} (f : α → β) (d : α) (xs : List α) (n : Nat) : (xs.map f).getD n (f d) = f (xs.getD n d) := by
  simp only [List.getD_eq_getElem?_getD, List.getElem?_map]
  cases xs[n]? <;> rfl
theorem own_idx {j z : Int32} {zi : Int} (hz : z.toInt = zi) (h1 : 0 ≤ j.toInt) (h2 : j.toInt < zi) : ¬ j < 0 ∧ j < z := ⟨fun q => by have := (own_lti rfl (by decide : (0 : Int32).toInt = 0)).mp q; omega, Int32.lt_iff_toInt_lt.mpr (by rw [hz]; exact h2)⟩
end Own
section Dbl
open Jvm.FP.Core
def own_W : Nat := 2 ^ 1054
theorem own_Wpos : 0 < own_W := Nat.two_pow_pos _
theorem own_one : one64 = 1048576 * own_W := by decide +kernel
def own_zv (x : UInt64) : Int := zval b64 (val64 x)
theorem own_rep (k : Nat) (h : k < 9007199254740992) : ∃ V, Jvm.FP.Core.fits b64 V ∧ V ≠ .nan ∧ zmag b64 V = k * own_W ∧ zval b64 V = (k : Int) * (own_W : Int) := by
  obtain ⟨c', q', h1, h2⟩ := round_exact good_b64 false (c := k) (q := -20) (by show k < 2 ^ 53; omega) (by decide) (by decide)
  have hz : zmag b64 (.fin false c' q') = k * own_W := by
    show inUnits c' q' b64.qmin = _
    rw [h2]
    show k * 2 ^ ((-20 : Int) - b64.qmin).toNat = k * 2 ^ 1054
    rw [show ((-20 : Int) - b64.qmin).toNat = 1054 by decide]
  refine ⟨.fin false c' q', h1 ▸ round_fits good_b64 _, Datum.noConfusion, hz, ?_⟩
  show ((zmag b64 (.fin false c' q') : Nat) : Int) = _
  rw [hz, Int.natCast_mul]
theorem own_nn {x : UInt64} (h : DFin x) : val64 x ≠ .nan := by
  obtain ⟨s, c, q, e⟩ := h
  rw [e]; exact Datum.noConfusion
theorem own_add_ge {x y : UInt64} (hx : DFin x) (hy : DFin y) {k : Nat} (hk : k < 9007199254740992) (h : (k : Int) * (own_W : Int) ≤ own_zv x + own_zv y) : (k : Int) * (own_W : Int) ≤ own_zv (dadd x y) := by
  obtain ⟨V, f, n, -, z⟩ := own_rep k hk
  unfold own_zv at h ⊢
  rw [val64_dadd, ← z]
  rw [← z] at h
  exact sum_ge good_b64 hx hy (val64_fits x) (val64_fits y) f n h
theorem own_add_le {x y : UInt64} (hx : DFin x) (hy : DFin y) {k : Nat} (hk : k < 9007199254740992) (h : own_zv x + own_zv y ≤ (k : Int) * (own_W : Int)) : own_zv (dadd x y) ≤ (k : Int) * (own_W : Int) := by
  obtain ⟨V, f, n, -, z⟩ := own_rep k hk
  unfold own_zv at h ⊢
  rw [val64_dadd, ← z]
  rw [← z] at h
  exact sum_le good_b64 hx hy (val64_fits x) (val64_fits y) f n h
theorem own_zl {a : Int64} (h : Small53 a) : own_zv (l2d a) = a.toInt * (one64 : Int) := by
  have q := whole_zval good_b64 (val64_fits (l2d a)) (l2d_whole h)
  rw [pow_qmin64] at q
  exact q
theorem own_pos {a : Int64} (h : Small53 a) (h0 : 0 ≤ a.toInt) {n : Nat} (hn : a.toInt = (n : Int)) : ∃ c q, val64 (l2d a) = .fin false c q ∧ b64.qmin ≤ q ∧ c * 2 ^ (q - b64.qmin).toNat = n * one64 := by
  obtain ⟨c, q, e⟩ := l2d_shape a
  have hd : decide (a.toInt < 0) = false := by simp; omega
  rw [hd] at e
  have hf := val64_fits (l2d a)
  have hz := own_zl h
  unfold own_zv at hz
  rw [e] at hf hz
  refine ⟨c, q, e, hf.2.1, ?_⟩
  have hz2 : ((c * 2 ^ (q - b64.qmin).toNat : Nat) : Int) = a.toInt * (one64 : Int) := hz
  rw [hn, ← Int.natCast_mul] at hz2
  exact Int.ofNat.inj hz2
theorem own_div {a b : Int64} {i j : Nat} (ha : Small53 a) (hb : Small53 b) (hi : a.toInt = (i : Int)) (hj : b.toInt = (j : Int)) (hj0 : 0 < j) :
    ∃ c d e e0, 0 < d ∧ e0 ≤ b64.qmin ∧ e0 ≤ e ∧ val64 (ddiv (l2d a) (l2d b)) = roundRatio b64 false c d e ∧ inUnits c e e0 = i * one64 * one64 ∧ ∀ v : Nat, v * 2 ^ (b64.qmin - e0).toNat * d = v * (j * one64) := by
  obtain ⟨c, q, ea, ga, za⟩ := own_pos ha (by omega) hi
  obtain ⟨d, r, eb, gb, zb⟩ := own_pos hb (by omega) hj
  have hd : d ≠ 0 := by
    intro q0
    rw [q0, Nat.zero_mul] at zb
    have := Nat.mul_pos hj0 one64_pos
    omega
  have hq : b64.qmin = -1074 := qmin_b64
  refine ⟨c, d, q - r, b64.qmin - (r - b64.qmin), by omega, by omega, by omega, ?_, ?_, ?_⟩
  · rw [val64_ddiv, ea, eb]
    show (if d = 0 then _ else roundRatio b64 (false != false) c d (q - r)) = _
    rw [if_neg hd]; rfl
  · unfold inUnits
    rw [show (q - r - (b64.qmin - (r - b64.qmin))).toNat = (q - b64.qmin).toNat + 1074 by omega, Nat.pow_add, ← Nat.mul_assoc, za]
    rfl
  · intro v
    rw [show (b64.qmin - (b64.qmin - (r - b64.qmin))).toNat = (r - b64.qmin).toNat by omega, Nat.mul_assoc, Nat.mul_comm _ d, zb]
theorem own_sgn {x : UInt64} {c d : Nat} {e : Int} (h : val64 x = roundRatio b64 false c d e) : own_zv x = ((zmag b64 (roundRatio b64 false c d e) : Nat) : Int) := by
  unfold own_zv zval
  rw [h, sgn_roundRatio]; rfl
theorem own_cmp0 {U W i j k : Nat} (hU : U = 1048576 * W) (h0 : 0 < W) : (i * U * U ≤ k * W * (j * U) ↔ i * 1048576 ≤ k * j) ∧ (k * W * (j * U) ≤ i * U * U ↔ k * j ≤ i * 1048576) := by
  have hp : 0 < W * U := Nat.mul_pos h0 (by omega)
  have e1 : k * W * (j * U) = (k * j) * (W * U) := by ac_rfl
  have e2 : i * U * U = (i * 1048576) * (W * U) := by
    rw [Nat.mul_assoc i, Nat.mul_assoc i, ← Nat.mul_assoc 1048576, ← hU]
  rw [e1, e2]
  exact ⟨Nat.mul_le_mul_right_iff hp, Nat.mul_le_mul_right_iff hp⟩
theorem own_div_le {a b : Int64} {i j k : Nat} (ha : Small53 a) (hb : Small53 b) (hi : a.toInt = (i : Int)) (hj : b.toInt = (j : Int)) (hj0 : 0 < j) (hk : k < 9007199254740992) (h : i * 1048576 ≤ k * j) : own_zv (ddiv (l2d a) (l2d b)) ≤ (k : Int) * (own_W : Int) := by
  obtain ⟨c, d, e, e0, hd, h0, h1, hv, hu, hw⟩ := own_div ha hb hi hj hj0
  obtain ⟨V, f, n, z, -⟩ := own_rep k hk
  rw [own_sgn hv, ← Int.natCast_mul, Int.ofNat_le, ← z]
  refine zmag_roundRatio_le good_b64 hd f n h0 h1 ?_
  rw [hw, hu, z]
  exact (own_cmp0 own_one own_Wpos).1.mpr h
theorem own_div_ge {a b : Int64} {i j k : Nat} (ha : Small53 a) (hb : Small53 b) (hi : a.toInt = (i : Int)) (hj : b.toInt = (j : Int)) (hj0 : 0 < j) (hk : k < 9007199254740992) (h : k * j ≤ i * 1048576) : (k : Int) * (own_W : Int) ≤ own_zv (ddiv (l2d a) (l2d b)) := by
  obtain ⟨c, d, e, e0, hd, h0, h1, hv, hu, hw⟩ := own_div ha hb hi hj hj0
  obtain ⟨V, f, n, z, -⟩ := own_rep k hk
  rw [own_sgn hv, ← Int.natCast_mul, Int.ofNat_le, ← z]
  refine zmag_roundRatio_ge good_b64 hd f h0 h1 ?_
  rw [hw, hu, z]
  exact (own_cmp0 own_one own_Wpos).2.mpr h
theorem own_fins {a b t : Int64} (hb : b.toInt ≠ 0) : DFin (ddiv (l2d a) (l2d b)) ∧ DFin (dadd (ddiv (l2d a) (l2d b)) (l2d t)) ∧ DFin (dadd (dadd (ddiv (l2d a) (l2d b)) (l2d t)) (dadd (ddiv (l2d a) (l2d b)) (l2d t))) := by
  have ma := l2d_mag a
  have mb := l2d_big hb
  have mt := l2d_mag t
  have m1 := ddiv_mag ma mb.1 mb.2 (by decide) (by decide)
  have m2 := dadd_mag (K := 1089) (a := ddiv (l2d a) (l2d b)) (b := l2d t) (by omega) (by omega) (by decide)
  have m3 := dadd_mag (K := 1091) (a := dadd (ddiv (l2d a) (l2d b)) (l2d t)) (b := dadd (ddiv (l2d a) (l2d b)) (l2d t)) (by omega) (by omega) (by decide)
  exact ⟨fin_of_lt (K := 1089) (by omega) (by decide), fin_of_lt (K := 1091) (by omega) (by decide), fin_of_lt (K := 1093) (by omega) (by decide)⟩
theorem own_zlW {n : Int64} {N : Nat} (h : n.toInt = (N : Int)) (hN : N < 9007199254740992) : own_zv (l2d n) = ((N * 1048576 : Nat) : Int) * (own_W : Int) := by
  rw [own_zl ⟨by omega, by omega⟩, own_one, h, Int.natCast_mul, Int.natCast_mul, Int.mul_assoc]
theorem own_r2 {a b t : Int64} {i j u kl kh : Nat} (hi : a.toInt = (i : Int)) (hj : b.toInt = (j : Int)) (hu : t.toInt = (u : Int)) (i1 : i < 2147483648) (j1 : 3 ≤ j) (j2 : j ≤ 6) (u1 : u ≤ 8) (hk : kh < 2251799813685248) (h1 : kl * j ≤ i * 1048576) (h2 : i * 1048576 ≤ kh * j) {r : UInt64} (er : r = dadd (ddiv (l2d a) (l2d b)) (l2d t)) :
    ((2 * (kl + u * 1048576) : Nat) : Int) * (own_W : Int) ≤ own_zv (dadd r r) ∧ own_zv (dadd r r) ≤ ((2 * (kh + u * 1048576) : Nat) : Int) * (own_W : Int) := by
  obtain ⟨f1, f2, f3⟩ := own_fins (a := a) (b := b) (t := t) (by omega)
  have sa : Small53 a := ⟨by omega, by omega⟩
  have sb : Small53 b := ⟨by omega, by omega⟩
  have kk : kl ≤ kh := Nat.le_of_mul_le_mul_right (Nat.le_trans h1 h2) (by omega)
  have q1 := own_div_ge sa sb hi hj (by omega) (k := kl) (by omega) h1
  have q2 := own_div_le sa sb hi hj (by omega) (k := kh) (by omega) h2
  have zt := own_zlW hu (by omega)
  have e1 : ∀ k : Nat, ((k + u * 1048576 : Nat) : Int) * (own_W : Int) = (k : Int) * (own_W : Int) + ((u * 1048576 : Nat) : Int) * (own_W : Int) := fun k => by rw [← Int.add_mul, Int.natCast_add]
  have e2 : ∀ k : Nat, ((2 * k : Nat) : Int) * (own_W : Int) = (k : Int) * (own_W : Int) + (k : Int) * (own_W : Int) := fun k => by rw [← Int.add_mul]; congr 1; omega
  have p1 := own_add_ge f1 (l2d_fin t) (k := kl + u * 1048576) (by omega) (by rw [e1, zt]; omega)
  have p2 := own_add_le f1 (l2d_fin t) (k := kh + u * 1048576) (by omega) (by rw [e1, zt]; omega)
  rw [← er] at f2 f3 p1 p2
  exact ⟨own_add_ge f2 f2 (by omega) (by rw [e2]; omega), own_add_le f2 f2 (by omega) (by rw [e2]; omega)⟩
theorem own_clt {x y : UInt64} (hx : DFin x) (hy : DFin y) {P Q : Nat} (h1 : own_zv x ≤ (P : Int) * (own_W : Int)) (h2 : (Q : Int) * (own_W : Int) ≤ own_zv y) (h : P < Q) : dcmp x y = some .lt := by
  rw [dcmp_zval (own_nn hx) (own_nn hy)]
  congr 1
  rw [compare_lt_iff]
  have hw := Nat.mul_lt_mul_of_pos_right h own_Wpos
  have hw' : (P : Int) * (own_W : Int) < (Q : Int) * (own_W : Int) := by rw [← Int.natCast_mul, ← Int.natCast_mul]; exact Int.ofNat_lt.mpr hw
  exact Int.lt_of_le_of_lt h1 (Int.lt_of_lt_of_le hw' h2)
theorem own_ceq {x y : UInt64} (hx : DFin x) (hy : DFin y) (h : own_zv x = own_zv y) : dcmp x y = some .eq := by
  rw [dcmp_zval (own_nn hx) (own_nn hy)]
  congr 1
  rw [compare_eq_iff]
  exact h
section Law
variable {a b t n n' : Int64} {i j u : Nat} {r : UInt64} (hi : a.toInt = (i : Int)) (hj : b.toInt = (j : Int)) (hu : t.toInt = (u : Int)) (i1 : i < 2147483648) (j1 : 3 ≤ j) (j2 : j ≤ 6) (u1 : u ≤ 8) (er : r = dadd (ddiv (l2d a) (l2d b)) (l2d t))
theorem own_fin2 (hj : b.toInt = (j : Int)) (j1 : 3 ≤ j) (er : r = dadd (ddiv (l2d a) (l2d b)) (l2d t)) : DFin (dadd r r) := by
  rw [er]; exact (own_fins (by omega)).2.2
theorem own_c0 (hi : a.toInt = (i : Int)) (hj : b.toInt = (j : Int)) (hu : t.toInt = (u : Int)) (i1 : i < 2147483648) (j1 : 3 ≤ j) (j2 : j ≤ 6) (u1 : u ≤ 8) (er : r = dadd (ddiv (l2d a) (l2d b)) (l2d t)) (hr : i % j = 0) (hn : n.toInt = ((2 * (i / j + u) : Nat) : Int)) : dcmp (dadd r r) (l2d n) = some .eq := by
  have k1 : i / j * 1048576 * j = i * 1048576 := by
    have := Nat.div_add_mod i j
    rw [hr] at this
    calc i / j * 1048576 * j = (j * (i / j) + 0) * 1048576 := by rw [Nat.add_zero]; ac_rfl
      _ = _ := by rw [this]
  have kd : i / j ≤ i := Nat.div_le_self i j
  have kd2 : i / j ≤ i / 3 := Nat.div_le_div_left j1 (by decide)
  obtain ⟨q1, q2⟩ := own_r2 hi hj hu i1 j1 j2 u1 (kl := i / j * 1048576) (kh := i / j * 1048576) (by omega) (Nat.le_of_eq k1) (Nat.le_of_eq k1.symm) er
  refine own_ceq (own_fin2 hj j1 er) (l2d_fin n) ?_
  rw [own_zlW hn (by omega), show 2 * (i / j + u) * 1048576 = 2 * (i / j * 1048576 + u * 1048576) by omega]
  exact Int.le_antisymm q2 q1
theorem own_c1 (hi : a.toInt = (i : Int)) (hj : b.toInt = (j : Int)) (hu : t.toInt = (u : Int)) (i1 : i < 2147483648) (j1 : 3 ≤ j) (j2 : j ≤ 6) (u1 : u ≤ 8) (er : r = dadd (ddiv (l2d a) (l2d b)) (l2d t)) (hr : 2 * (i % j) = j) (hn : n.toInt = ((2 * (i / j + u) + 1 : Nat) : Int)) : dcmp (dadd r r) (l2d n) = some .eq := by
  have k1 : (i / j * 1048576 + 524288) * j = i * 1048576 := by
    have := Nat.div_add_mod i j
    have e : i / j * 1048576 * j = j * (i / j) * 1048576 := by ac_rfl
    rw [Nat.add_mul, e]
    omega
  have kd : i / j ≤ i := Nat.div_le_self i j
  have kd2 : i / j ≤ i / 3 := Nat.div_le_div_left j1 (by decide)
  obtain ⟨q1, q2⟩ := own_r2 hi hj hu i1 j1 j2 u1 (kl := i / j * 1048576 + 524288) (kh := i / j * 1048576 + 524288) (by omega) (Nat.le_of_eq k1) (Nat.le_of_eq k1.symm) er
  refine own_ceq (own_fin2 hj j1 er) (l2d_fin n) ?_
  rw [own_zlW hn (by omega), show (2 * (i / j + u) + 1) * 1048576 = 2 * (i / j * 1048576 + 524288 + u * 1048576) by omega]
  exact Int.le_antisymm q2 q1
theorem own_clo (hi : a.toInt = (i : Int)) (hj : b.toInt = (j : Int)) (hu : t.toInt = (u : Int)) (i1 : i < 2147483648) (j1 : 3 ≤ j) (j2 : j ≤ 6) (u1 : u ≤ 8) (er : r = dadd (ddiv (l2d a) (l2d b)) (l2d t)) (hr0 : i % j ≠ 0) (hr : 2 * (i % j) < j) (hn : n.toInt = ((2 * (i / j + u) : Nat) : Int)) (hn' : n'.toInt = ((2 * (i / j + u) + 1 : Nat) : Int)) : dcmp (l2d n) (dadd r r) = some .lt ∧ dcmp (dadd r r) (l2d n') = some .lt := by
  have hm := Nat.div_add_mod i j
  have e : i / j * 1048576 * j = j * (i / j) * 1048576 := by ac_rfl
  have k1 : (i / j * 1048576 + 1) * j ≤ i * 1048576 := by rw [Nat.add_mul, e]; omega
  have k2 : i * 1048576 ≤ (i / j * 1048576 + 524287) * j := by rw [Nat.add_mul, e]; omega
  have kd : i / j ≤ i := Nat.div_le_self i j
  have kd2 : i / j ≤ i / 3 := Nat.div_le_div_left j1 (by decide)
  obtain ⟨q1, q2⟩ := own_r2 hi hj hu i1 j1 j2 u1 (by omega) k1 k2 er
  exact ⟨own_clt (l2d_fin n) (own_fin2 hj j1 er) (Int.le_of_eq (own_zlW hn (by omega))) q1 (by omega), own_clt (own_fin2 hj j1 er) (l2d_fin n') q2 (Int.le_of_eq (own_zlW hn' (by omega)).symm) (by omega)⟩
theorem own_chi (hi : a.toInt = (i : Int)) (hj : b.toInt = (j : Int)) (hu : t.toInt = (u : Int)) (i1 : i < 2147483648) (j1 : 3 ≤ j) (j2 : j ≤ 6) (u1 : u ≤ 8) (er : r = dadd (ddiv (l2d a) (l2d b)) (l2d t)) (hr : j < 2 * (i % j)) (hn : n.toInt = ((2 * (i / j + u) + 1 : Nat) : Int)) (hn' : n'.toInt = ((2 * (i / j + u) + 2 : Nat) : Int)) : dcmp (l2d n) (dadd r r) = some .lt ∧ dcmp (dadd r r) (l2d n') = some .lt := by
  have hm := Nat.div_add_mod i j
  have hlt := Nat.mod_lt i (show 0 < j by omega)
  have e : i / j * 1048576 * j = j * (i / j) * 1048576 := by ac_rfl
  have k1 : (i / j * 1048576 + 524289) * j ≤ i * 1048576 := by rw [Nat.add_mul, e]; omega
  have k2 : i * 1048576 ≤ (i / j * 1048576 + 1048575) * j := by rw [Nat.add_mul, e]; omega
  have kd : i / j ≤ i := Nat.div_le_self i j
  have kd2 : i / j ≤ i / 3 := Nat.div_le_div_left j1 (by decide)
  obtain ⟨q1, q2⟩ := own_r2 hi hj hu i1 j1 j2 u1 (by omega) k1 k2 er
  exact ⟨own_clt (l2d_fin n) (own_fin2 hj j1 er) (Int.le_of_eq (own_zlW hn (by omega))) q1 (by omega), own_clt (own_fin2 hj j1 er) (l2d_fin n') q2 (Int.le_of_eq (own_zlW hn' (by omega)).symm) (by omega)⟩
end Law
end Dbl

section OwnD
variable {p : Program} {l : Launch} {e : Env} {R : Room} {s : State} {m : MethodId} {args : Array Value} {below : List Frame} {meth : Method} {c : Code} {T : State} {locs : List Loc} {cells slots : Nat} {Q : Option Value → Heap → List Loc → Prop} {C S : Nat}
theorem ownRetD (X : Stand p l e R s m args below meth c T locs cells slots) (hx : p.tables.exec = Jvm.exec) (hlk : meth.locks = false) (hret : meth.sig.returnType = some .double) {pc : Nat} {Ls : Array Slot} {z : UInt64} {rest : List Value} (hd : decode c.code pc = .ok (.dreturn, 1)) (hC : cells ≤ C) (hS : slots ≤ S) (hQ : Q (some (.double z)) T.heap locs) : ownFin p e below (ownFE s C S) Q (T.setTop (mkF m pc Ls (.double z :: rest))) :=
  ownRet X hlk (v := some (.double z)) (fun q => by rw [hret] at q; cases q) (fun fs hr => retOut X hx hret rfl (Or.inr (Or.inr (Or.inl ⟨rfl, rfl, z, rfl⟩))) hd hr) hC hS hQ
end OwnD
theorem own_nan1 (a : Int32) {b : Int32} (hb : b.toInt ≠ 0) : Jvm.Free.Fl.NoNaN64 (FP.ddiv (FP.i2d a) (FP.i2d b)) := by
  rw [i2d_w, i2d_w]
  exact Jvm.Free.Fl.val64_no.mpr (own_nn (own_fins (t := 0) (by rw [Int32.toInt_toInt64]; exact hb)).1)
theorem own_nan2 (a : Int32) {b : Int32} (u : Int32) (hb : b.toInt ≠ 0) : Jvm.Free.Fl.NoNaN64 (FP.dadd (FP.ddiv (FP.i2d a) (FP.i2d b)) (FP.i2d u)) := by
  rw [i2d_w, i2d_w, i2d_w]
  exact Jvm.Free.Fl.val64_no.mpr (own_nn (own_fins (by rw [Int32.toInt_toInt64]; exact hb)).2.1)
def own_t (w f : Int32) : Int32 := if f = 0 then 0 else (1 : Int32) <<< ((w - 2) &&& 31)
theorem own_t0 {w f : Int32} (h : f = 0) : own_t w f = 0 := if_pos h
theorem own_t1 {w f : Int32} (h : ¬ f = 0) : own_t w f = (1 : Int32) <<< ((w - 2) &&& 31) := if_neg h
def own_tc (w : Int32) : Int32 := if w = 2 then 1 else if w = 3 then 2 else if w = 4 then 4 else 8
theorem own_bits (q : Int32) : ∃ i : Nat, (q &&& (2147483647 : Int32)).toInt = (i : Int) ∧ i < 2147483648 := by
  have a := c_mask q 2147483647 31 (by decide) (by decide)
  exact ⟨(q &&& (2147483647 : Int32)).toInt.toNat, by omega, by omega⟩
theorem own_wid (q : Int32) : ((2 : Int32) + ((q &&& (2147483647 : Int32)) % (4 : Int32))) = 2 ∨ ((2 : Int32) + ((q &&& (2147483647 : Int32)) % (4 : Int32))) = 3 ∨ ((2 : Int32) + ((q &&& (2147483647 : Int32)) % (4 : Int32))) = 4 ∨ ((2 : Int32) + ((q &&& (2147483647 : Int32)) % (4 : Int32))) = 5 := by
  have a := c_mask q 2147483647 31 (by decide) (by decide)
  have b := (c_irem (q &&& (2147483647 : Int32)) 4 4 (by decide)).1 (by omega)
  generalize (q &&& (2147483647 : Int32)) % (4 : Int32) = z at b ⊢
  have d := c_iadd 2 z
  have r := rng32 (2 + z)
  have k : (2 : Int32).toInt = 2 := by decide
  have : (2 + z).toInt = 2 ∨ (2 + z).toInt = 3 ∨ (2 + z).toInt = 4 ∨ (2 + z).toInt = 5 := by omega
  rcases this with h | h | h | h
  · exact Or.inl (Int32.toInt_inj.mp (by rw [h]; decide))
  · exact Or.inr (Or.inl (Int32.toInt_inj.mp (by rw [h]; decide)))
  · exact Or.inr (Or.inr (Or.inl (Int32.toInt_inj.mp (by rw [h]; decide))))
  · exact Or.inr (Or.inr (Or.inr (Int32.toInt_inj.mp (by rw [h]; decide))))
theorem own_tw {w : Int32} (h : w = 2 ∨ w = 3 ∨ w = 4 ∨ w = 5) : own_tc w = own_t w 1 ∧ ∃ u : Nat, (own_t w 1).toInt64.toInt = (u : Int) ∧ u ≤ 8 := by
  rcases h with rfl | rfl | rfl | rfl
  · exact ⟨by decide, 1, by decide, by decide⟩
  · exact ⟨by decide, 2, by decide, by decide⟩
  · exact ⟨by decide, 4, by decide, by decide⟩
  · exact ⟨by decide, 8, by decide, by decide⟩
theorem own_dw {w : Int32} (h : w = 2 ∨ w = 3 ∨ w = 4 ∨ w = 5) : ∃ j : Nat, (w + (1 : Int32)).toInt = (j : Int) ∧ 3 ≤ j ∧ j ≤ 6 := by
  rcases h with rfl | rfl | rfl | rfl
  · exact ⟨3, by decide, by decide, by decide⟩
  · exact ⟨4, by decide, by decide, by decide⟩
  · exact ⟨5, by decide, by decide, by decide⟩
  · exact ⟨6, by decide, by decide, by decide⟩
theorem own_quo {a b : Int32} {i j : Nat} (ha : a.toInt = (i : Int)) (hb : b.toInt = (j : Int)) : (a / b).toInt64.toInt = ((i / j : Nat) : Int) := by
  have r := rng32 a
  have k : i / j ≤ i := Nat.div_le_self i j
  rw [Int32.toInt_toInt64, Int32.toInt_div, ha, hb]
  rw [show (i : Int).tdiv (j : Int) = ((i / j : Nat) : Int) from rfl]
  generalize i / j = q at k ⊢
  exact Int.bmod_eq_of_le (by omega) (by omega)
theorem own_mod {a b : Int32} {i j : Nat} (ha : a.toInt = (i : Int)) (hb : b.toInt = (j : Int)) : (a % b).toInt64.toInt = ((i % j : Nat) : Int) := by
  rw [Int32.toInt_toInt64, (c_irem a b j hb).1 (by omega), ha]; rfl
theorem own_low {m t : Int64} {M u : Nat} (hm : m.toInt = (M : Int)) (ht : t.toInt = (u : Int)) (h1 : M < 2147483648) (h2 : u ≤ 8) : ((2 : Int64) * (m + t)).toInt = ((2 * (M + u) : Nat) : Int) := by
  have a := c_ladd m t
  have b := rng64 (m + t)
  have e : (m + t).toInt = (M : Int) + (u : Int) := by omega
  have q := c_lmul 2 (m + t)
  have d := rng64 (2 * (m + t))
  have k : (2 : Int64).toInt = 2 := by decide
  rw [k, e] at q
  omega
theorem own_twice {m : Int64} {M : Nat} (hm : m.toInt = (M : Int)) (h1 : M < 2147483648) : ((2 : Int64) * m).toInt = ((2 * M : Nat) : Int) := by
  have q := c_lmul 2 m
  have d := rng64 (2 * m)
  have k : (2 : Int64).toInt = 2 := by decide
  rw [k, hm] at q
  omega
theorem own_plus {n k : Int64} {N K : Nat} (hn : n.toInt = (N : Int)) (hk : k.toInt = (K : Int)) (h1 : N < 8589934592) (h2 : K ≤ 2) : (n + k).toInt = ((N + K : Nat) : Int) := by
  have q := c_ladd n k
  have d := rng64 (n + k)
  omega
theorem own_cv0 {x y : UInt64} (h : FP.dcmp x y = some .eq) : cmpValue (FP.dcmp x y) .l = 0 := by rw [h]; rfl
theorem own_cv1 {x y : UInt64} (h : FP.dcmp x y = some .lt) : cmpValue (FP.dcmp x y) .g < 0 := by rw [h]; decide
theorem own_nan3 (a : Int32) {b : Int32} (u : Int32) (hb : b.toInt ≠ 0) : Jvm.Free.Fl.NoNaN64 (FP.dadd (FP.dadd (FP.ddiv (FP.i2d a) (FP.i2d b)) (FP.i2d u)) (FP.dadd (FP.ddiv (FP.i2d a) (FP.i2d b)) (FP.i2d u))) := by
  rw [i2d_w, i2d_w, i2d_w]
  exact Jvm.Free.Fl.val64_no.mpr (own_nn (own_fins (by rw [Int32.toInt_toInt64]; exact hb)).2.2)
theorem d2_0 : decode method_2_code 0 = .ok (.iload_n 0, 1) := by decide +kernel
theorem d2_1 : decode method_2_code 1 = .ok (.iconst 2, 1) := by decide +kernel
theorem d2_2 : decode method_2_code 2 = .ok (.if_icmp .ne 5, 3) := by decide +kernel
theorem d2_5 : decode method_2_code 5 = .ok (.iconst 1, 1) := by decide +kernel
theorem d2_6 : decode method_2_code 6 = .ok (.ireturn, 1) := by decide +kernel
theorem d2_7 : decode method_2_code 7 = .ok (.iload_n 0, 1) := by decide +kernel
theorem d2_8 : decode method_2_code 8 = .ok (.iconst 3, 1) := by decide +kernel
theorem d2_9 : decode method_2_code 9 = .ok (.if_icmp .ne 5, 3) := by decide +kernel
theorem d2_12 : decode method_2_code 12 = .ok (.iconst 2, 1) := by decide +kernel
theorem d2_13 : decode method_2_code 13 = .ok (.ireturn, 1) := by decide +kernel
theorem d2_14 : decode method_2_code 14 = .ok (.iload_n 0, 1) := by decide +kernel
theorem d2_15 : decode method_2_code 15 = .ok (.iconst 4, 1) := by decide +kernel
theorem d2_16 : decode method_2_code 16 = .ok (.if_icmp .ne 5, 3) := by decide +kernel
theorem d2_19 : decode method_2_code 19 = .ok (.iconst 4, 1) := by decide +kernel
theorem d2_20 : decode method_2_code 20 = .ok (.ireturn, 1) := by decide +kernel
theorem d2_21 : decode method_2_code 21 = .ok (.bipush 8, 2) := by decide +kernel
theorem d2_23 : decode method_2_code 23 = .ok (.ireturn, 1) := by decide +kernel
theorem own_pn0 : plainName "com/example/lacuna/lacuna/bls12381/SumOfProductsInterleavedCostPinLaw" = true := by first | (simp [plainName, overriddenIn]; done) | decide +kernel
theorem own_ef1 (m : MethodId) (p1 : Int32) : entryFrame m #[(.int p1)] 1 = mkF m 0 #[.val (.int p1)] [] := by first | (simp [entryFrame, mkF, argsToLocals, Value.category]; done) | rfl
def Q_own_table (Z : State) (p1 : Int32) (h0 : Heap) (n0 : Nat)  : Option Value → Heap → List Loc → Prop := fun v h L => v = some (.int (own_tc p1)) ∧ Fr n0 L ∧ h = h0
set_option maxRecDepth 65536 in
set_option maxHeartbeats 40000000 in
theorem own_table (l : Launch) (Z : State) (a0 : Array Value) (hw : ∀ d ∈ tables_1, d.before a0 Z = true)  (p1 : Int32) (h0 : Heap) (n0 : Nat)  (Z0 : n0 ≤ h0.size)  :
    ownMet l Z (⟨"com/example/lacuna/lacuna/bls12381/SumOfProductsInterleavedCostPinLaw", "tableCost", "(I)I"⟩ : MethodName) method_2_code 1 (some .int) [] ({ frames := 0, cells := 0, slots := 0, locals := 0 } : Room) #[(.int p1)] h0 (Q_own_table Z p1 h0 n0 ) := by
  refine ownBody (plainFor_of_name own_pn0) ?_
  intro p e s m below meth c T0 hx hby hml hret hlk hZ hown hnm X0 e0
  have N0 : Fr n0 [] := Fr.nil n0
  refine ownVia (fun _ k => castTop (own_ef1 m p1) k) ?_
  show ownFin _ _ _ _ _ (T0.setTop (mkF m 0 #[.val (.int p1)] []))
  refine ownVia (fun _ k => XS.iloadN X0.here hx rfl (hb hby d2_0) rfl k) ?_
  show ownFin _ _ _ _ _ (T0.setTop (mkF m 1 #[.val (.int p1)] [(.int p1)]))
  refine ownVia (fun _ k => XS.iconst X0.here hx rfl (hb hby d2_1) k) ?_
  show ownFin _ _ _ _ _ (T0.setTop (mkF m 2 #[.val (.int p1)] [(.int (2 : Int32)), (.int p1)]))
  by_cases hc2 : p1 = (2 : Int32)
  case pos =>
    have hc2I : p1.toInt = 2 := (own_eqi rfl (by decide)).mp hc2
    refine ownVia (fun _ k => XS.icmpNo X0.here hx rfl (hb hby d2_2) rfl (teq hc2).2 k) ?_
    show ownFin _ _ _ _ _ (T0.setTop (mkF m 5 #[.val (.int p1)] []))
    refine ownVia (fun _ k => XS.iconst X0.here hx rfl (hb hby d2_5) k) ?_
    show ownFin _ _ _ _ _ (T0.setTop (mkF m 6 #[.val (.int p1)] [(.int (1 : Int32))]))
    refine ownRetI X0 hx hlk hret (hb hby d2_6) (by decide) (by decide) ?_
    show (Q_own_table Z p1 h0 n0 ) (some (.int (1 : Int32))) T0.heap _
    rw [e0]
    exact ⟨by unfold own_tc; rw [if_pos hc2], N0, rfl⟩
  case neg =>
    have hc2I : ¬ p1.toInt = 2 := fun q => hc2 ((own_eqi rfl (by decide)).mpr q)
    refine ownVia (fun _ k => XS.icmpYes X0.here hx rfl (pc0 := 2) (pc' := 7) rfl (hb hby d2_2) rfl (feq hc2).2 (by decide) (by decide) k) ?_
    show ownFin _ _ _ _ _ (T0.setTop (mkF m 7 #[.val (.int p1)] []))
    refine ownVia (fun _ k => XS.iloadN X0.here hx rfl (hb hby d2_7) rfl k) ?_
    show ownFin _ _ _ _ _ (T0.setTop (mkF m 8 #[.val (.int p1)] [(.int p1)]))
    refine ownVia (fun _ k => XS.iconst X0.here hx rfl (hb hby d2_8) k) ?_
    show ownFin _ _ _ _ _ (T0.setTop (mkF m 9 #[.val (.int p1)] [(.int (3 : Int32)), (.int p1)]))
    by_cases hc3 : p1 = (3 : Int32)
    case pos =>
      have hc3I : p1.toInt = 3 := (own_eqi rfl (by decide)).mp hc3
      refine ownVia (fun _ k => XS.icmpNo X0.here hx rfl (hb hby d2_9) rfl (teq hc3).2 k) ?_
      show ownFin _ _ _ _ _ (T0.setTop (mkF m 12 #[.val (.int p1)] []))
      refine ownVia (fun _ k => XS.iconst X0.here hx rfl (hb hby d2_12) k) ?_
      show ownFin _ _ _ _ _ (T0.setTop (mkF m 13 #[.val (.int p1)] [(.int (2 : Int32))]))
      refine ownRetI X0 hx hlk hret (hb hby d2_13) (by decide) (by decide) ?_
      show (Q_own_table Z p1 h0 n0 ) (some (.int (2 : Int32))) T0.heap _
      rw [e0]
      exact ⟨by unfold own_tc; rw [if_neg hc2, if_pos hc3], N0, rfl⟩
    case neg =>
      have hc3I : ¬ p1.toInt = 3 := fun q => hc3 ((own_eqi rfl (by decide)).mpr q)
      refine ownVia (fun _ k => XS.icmpYes X0.here hx rfl (pc0 := 9) (pc' := 14) rfl (hb hby d2_9) rfl (feq hc3).2 (by decide) (by decide) k) ?_
      show ownFin _ _ _ _ _ (T0.setTop (mkF m 14 #[.val (.int p1)] []))
      refine ownVia (fun _ k => XS.iloadN X0.here hx rfl (hb hby d2_14) rfl k) ?_
      show ownFin _ _ _ _ _ (T0.setTop (mkF m 15 #[.val (.int p1)] [(.int p1)]))
      refine ownVia (fun _ k => XS.iconst X0.here hx rfl (hb hby d2_15) k) ?_
      show ownFin _ _ _ _ _ (T0.setTop (mkF m 16 #[.val (.int p1)] [(.int (4 : Int32)), (.int p1)]))
      by_cases hc4 : p1 = (4 : Int32)
      case pos =>
        have hc4I : p1.toInt = 4 := (own_eqi rfl (by decide)).mp hc4
        refine ownVia (fun _ k => XS.icmpNo X0.here hx rfl (hb hby d2_16) rfl (teq hc4).2 k) ?_
        show ownFin _ _ _ _ _ (T0.setTop (mkF m 19 #[.val (.int p1)] []))
        refine ownVia (fun _ k => XS.iconst X0.here hx rfl (hb hby d2_19) k) ?_
        show ownFin _ _ _ _ _ (T0.setTop (mkF m 20 #[.val (.int p1)] [(.int (4 : Int32))]))
        refine ownRetI X0 hx hlk hret (hb hby d2_20) (by decide) (by decide) ?_
        show (Q_own_table Z p1 h0 n0 ) (some (.int (4 : Int32))) T0.heap _
        rw [e0]
        exact ⟨by unfold own_tc; rw [if_neg hc2, if_neg hc3, if_pos hc4], N0, rfl⟩
      case neg =>
        have hc4I : ¬ p1.toInt = 4 := fun q => hc4 ((own_eqi rfl (by decide)).mpr q)
        refine ownVia (fun _ k => XS.icmpYes X0.here hx rfl (pc0 := 16) (pc' := 21) rfl (hb hby d2_16) rfl (feq hc4).2 (by decide) (by decide) k) ?_
        show ownFin _ _ _ _ _ (T0.setTop (mkF m 21 #[.val (.int p1)] []))
        refine ownVia (fun _ k => XS.bipush X0.here hx rfl (hb hby d2_21) k) ?_
        show ownFin _ _ _ _ _ (T0.setTop (mkF m 23 #[.val (.int p1)] [(.int (8 : Int32))]))
        refine ownRetI X0 hx hlk hret (hb hby d2_23) (by decide) (by decide) ?_
        show (Q_own_table Z p1 h0 n0 ) (some (.int (8 : Int32))) T0.heap _
        rw [e0]
        exact ⟨by unfold own_tc; rw [if_neg hc2, if_neg hc3, if_neg hc4], N0, rfl⟩
theorem d1_0 : decode prog_17_method_4_code 0 = .ok (.iload_n 0, 1) := by decide +kernel
theorem d1_1 : decode prog_17_method_4_code 1 = .ok (.i2d, 1) := by decide +kernel
theorem d1_2 : decode prog_17_method_4_code 2 = .ok (.iload_n 1, 1) := by decide +kernel
theorem d1_3 : decode prog_17_method_4_code 3 = .ok (.iconst 1, 1) := by decide +kernel
theorem d1_4 : decode prog_17_method_4_code 4 = .ok (.iadd, 1) := by decide +kernel
theorem d1_5 : decode prog_17_method_4_code 5 = .ok (.i2d, 1) := by decide +kernel
theorem d1_6 : decode prog_17_method_4_code 6 = .ok (.ddiv, 1) := by decide +kernel
theorem d1_7 : decode prog_17_method_4_code 7 = .ok (.iload_n 2, 1) := by decide +kernel
theorem d1_8 : decode prog_17_method_4_code 8 = .ok (.ifCond .eq 11, 3) := by decide +kernel
theorem d1_11 : decode prog_17_method_4_code 11 = .ok (.iconst 1, 1) := by decide +kernel
theorem d1_12 : decode prog_17_method_4_code 12 = .ok (.iload_n 1, 1) := by decide +kernel
theorem d1_13 : decode prog_17_method_4_code 13 = .ok (.iconst 2, 1) := by decide +kernel
theorem d1_14 : decode prog_17_method_4_code 14 = .ok (.isub, 1) := by decide +kernel
theorem d1_15 : decode prog_17_method_4_code 15 = .ok (.ishl, 1) := by decide +kernel
theorem d1_16 : decode prog_17_method_4_code 16 = .ok (.goto 4, 3) := by decide +kernel
theorem d1_19 : decode prog_17_method_4_code 19 = .ok (.iconst 0, 1) := by decide +kernel
theorem d1_20 : decode prog_17_method_4_code 20 = .ok (.i2d, 1) := by decide +kernel
theorem d1_21 : decode prog_17_method_4_code 21 = .ok (.dadd, 1) := by decide +kernel
theorem d1_22 : decode prog_17_method_4_code 22 = .ok (.dreturn, 1) := by decide +kernel
theorem own_pn1 : plainName "com/example/lacuna/lacuna/bls12381/SumOfProducts" = true := by first | (simp [plainName, overriddenIn]; done) | decide +kernel
theorem own_ef5 (m : MethodId) (p1 : Int32) (p2 : Int32) (p3 : Int32) : entryFrame m #[(.int p1), (.int p2), (.int p3)] 3 = mkF m 0 #[.val (.int p1), .val (.int p2), .val (.int p3)] [] := by first | (simp [entryFrame, mkF, argsToLocals, Value.category]; done) | rfl
def Q_own_cost (Z : State) (p1 : Int32) (p2 : Int32) (p3 : Int32) (h0 : Heap) (n0 : Nat)  : Option Value → Heap → List Loc → Prop := fun v h L => v = some (.double (FP.dadd (FP.ddiv (FP.i2d p1) (FP.i2d (p2 + (1 : Int32)))) (FP.i2d (own_t p2 p3)))) ∧ Fr n0 L ∧ h = h0
set_option maxRecDepth 65536 in
set_option maxHeartbeats 40000000 in
theorem own_cost (l : Launch) (Z : State) (a0 : Array Value) (hw : ∀ d ∈ tables_1, d.before a0 Z = true)  (p1 : Int32) (p2 : Int32) (p3 : Int32) (h0 : Heap) (n0 : Nat)  (Z0 : n0 ≤ h0.size) (hd0 : (p2 + (1 : Int32)).toInt ≠ 0) :
    ownMet l Z (⟨"com/example/lacuna/lacuna/bls12381/SumOfProducts", "interleavedCost", "(IIZ)D"⟩ : MethodName) prog_17_method_4_code 3 (some .double) [] ({ frames := 0, cells := 0, slots := 0, locals := 0 } : Room) #[(.int p1), (.int p2), (.int p3)] h0 (Q_own_cost Z p1 p2 p3 h0 n0 ) := by
  refine ownBody (plainFor_of_name own_pn1) ?_
  intro p e s m below meth c T0 hx hby hml hret hlk hZ hown hnm X0 e0
  have N0 : Fr n0 [] := Fr.nil n0
  refine ownVia (fun _ k => castTop (own_ef5 m p1 p2 p3) k) ?_
  show ownFin _ _ _ _ _ (T0.setTop (mkF m 0 #[.val (.int p1), .val (.int p2), .val (.int p3)] []))
  refine ownVia (fun _ k => XS.iloadN X0.here hx rfl (hb hby d1_0) rfl k) ?_
  show ownFin _ _ _ _ _ (T0.setTop (mkF m 1 #[.val (.int p1), .val (.int p2), .val (.int p3)] [(.int p1)]))
  refine ownVia (fun _ k => XS.i2dS X0.here hx rfl (hb hby d1_1) rfl rfl k) ?_
  show ownFin _ _ _ _ _ (T0.setTop (mkF m 2 #[.val (.int p1), .val (.int p2), .val (.int p3)] [(.double (FP.i2d p1))]))
  refine ownVia (fun _ k => XS.iloadN X0.here hx rfl (hb hby d1_2) rfl k) ?_
  show ownFin _ _ _ _ _ (T0.setTop (mkF m 3 #[.val (.int p1), .val (.int p2), .val (.int p3)] [(.int p2), (.double (FP.i2d p1))]))
  refine ownVia (fun _ k => XS.iconst X0.here hx rfl (hb hby d1_3) k) ?_
  show ownFin _ _ _ _ _ (T0.setTop (mkF m 4 #[.val (.int p1), .val (.int p2), .val (.int p3)] [(.int (1 : Int32)), (.int p2), (.double (FP.i2d p1))]))
  refine ownVia (fun _ k => XS.iadd X0.here hx rfl (hb hby d1_4) rfl k) ?_
  show ownFin _ _ _ _ _ (T0.setTop (mkF m 5 #[.val (.int p1), .val (.int p2), .val (.int p3)] [(.int (p2 + (1 : Int32))), (.double (FP.i2d p1))]))
  refine ownVia (fun _ k => XS.i2dS X0.here hx rfl (hb hby d1_5) rfl rfl k) ?_
  show ownFin _ _ _ _ _ (T0.setTop (mkF m 6 #[.val (.int p1), .val (.int p2), .val (.int p3)] [(.double (FP.i2d (p2 + (1 : Int32)))), (.double (FP.i2d p1))]))
  refine ownVia (fun _ k => XS.ddivS X0.here hx rfl (hb hby d1_6) rfl (own_nan1 _ hd0) rfl k) ?_
  show ownFin _ _ _ _ _ (T0.setTop (mkF m 7 #[.val (.int p1), .val (.int p2), .val (.int p3)] [(.double (FP.ddiv (FP.i2d p1) (FP.i2d (p2 + (1 : Int32)))))]))
  refine ownVia (fun _ k => XS.iloadN X0.here hx rfl (hb hby d1_7) rfl k) ?_
  show ownFin _ _ _ _ _ (T0.setTop (mkF m 8 #[.val (.int p1), .val (.int p2), .val (.int p3)] [(.int p3), (.double (FP.ddiv (FP.i2d p1) (FP.i2d (p2 + (1 : Int32)))))]))
  by_cases hc6 : p3 = (0 : Int32)
  case pos =>
    have hc6I : p3.toInt = 0 := (own_eqi rfl (by decide)).mp hc6
    refine ownVia (fun _ k => XS.ifYes X0.here hx rfl (pc0 := 8) (pc' := 19) rfl (hb hby d1_8) rfl ((if0 _ _).trans (teq hc6).1) (by decide) (by decide) k) ?_
    show ownFin _ _ _ _ _ (T0.setTop (mkF m 19 #[.val (.int p1), .val (.int p2), .val (.int p3)] [(.double (FP.ddiv (FP.i2d p1) (FP.i2d (p2 + (1 : Int32)))))]))
    refine ownVia (fun _ k => XS.iconst X0.here hx rfl (hb hby d1_19) k) ?_
    show ownFin _ _ _ _ _ (T0.setTop (mkF m 20 #[.val (.int p1), .val (.int p2), .val (.int p3)] [(.int (0 : Int32)), (.double (FP.ddiv (FP.i2d p1) (FP.i2d (p2 + (1 : Int32)))))]))
    refine ownVia (fun _ k => XS.i2dS X0.here hx rfl (hb hby d1_20) rfl rfl k) ?_
    show ownFin _ _ _ _ _ (T0.setTop (mkF m 21 #[.val (.int p1), .val (.int p2), .val (.int p3)] [(.double (FP.i2d (0 : Int32))), (.double (FP.ddiv (FP.i2d p1) (FP.i2d (p2 + (1 : Int32)))))]))
    refine ownVia (fun _ k => XS.daddS X0.here hx rfl (hb hby d1_21) rfl (own_nan2 _ _ hd0) rfl k) ?_
    show ownFin _ _ _ _ _ (T0.setTop (mkF m 22 #[.val (.int p1), .val (.int p2), .val (.int p3)] [(.double (FP.dadd (FP.ddiv (FP.i2d p1) (FP.i2d (p2 + (1 : Int32)))) (FP.i2d (0 : Int32))))]))
    refine ownRetD X0 hx hlk hret (hb hby d1_22) (by decide) (by decide) ?_
    show (Q_own_cost Z p1 p2 p3 h0 n0 ) (some (.double (FP.dadd (FP.ddiv (FP.i2d p1) (FP.i2d (p2 + (1 : Int32)))) (FP.i2d (0 : Int32))))) T0.heap _
    rw [e0]
    exact ⟨by rw [own_t0 hc6], N0, rfl⟩
  case neg =>
    have hc6I : ¬ p3.toInt = 0 := fun q => hc6 ((own_eqi rfl (by decide)).mpr q)
    refine ownVia (fun _ k => XS.ifNo X0.here hx rfl (hb hby d1_8) rfl ((if0 _ _).trans (feq hc6).1) k) ?_
    show ownFin _ _ _ _ _ (T0.setTop (mkF m 11 #[.val (.int p1), .val (.int p2), .val (.int p3)] [(.double (FP.ddiv (FP.i2d p1) (FP.i2d (p2 + (1 : Int32)))))]))
    refine ownVia (fun _ k => XS.iconst X0.here hx rfl (hb hby d1_11) k) ?_
    show ownFin _ _ _ _ _ (T0.setTop (mkF m 12 #[.val (.int p1), .val (.int p2), .val (.int p3)] [(.int (1 : Int32)), (.double (FP.ddiv (FP.i2d p1) (FP.i2d (p2 + (1 : Int32)))))]))
    refine ownVia (fun _ k => XS.iloadN X0.here hx rfl (hb hby d1_12) rfl k) ?_
    show ownFin _ _ _ _ _ (T0.setTop (mkF m 13 #[.val (.int p1), .val (.int p2), .val (.int p3)] [(.int p2), (.int (1 : Int32)), (.double (FP.ddiv (FP.i2d p1) (FP.i2d (p2 + (1 : Int32)))))]))
    refine ownVia (fun _ k => XS.iconst X0.here hx rfl (hb hby d1_13) k) ?_
    show ownFin _ _ _ _ _ (T0.setTop (mkF m 14 #[.val (.int p1), .val (.int p2), .val (.int p3)] [(.int (2 : Int32)), (.int p2), (.int (1 : Int32)), (.double (FP.ddiv (FP.i2d p1) (FP.i2d (p2 + (1 : Int32)))))]))
    refine ownVia (fun _ k => XS.isub X0.here hx rfl (hb hby d1_14) rfl k) ?_
    show ownFin _ _ _ _ _ (T0.setTop (mkF m 15 #[.val (.int p1), .val (.int p2), .val (.int p3)] [(.int (p2 - (2 : Int32))), (.int (1 : Int32)), (.double (FP.ddiv (FP.i2d p1) (FP.i2d (p2 + (1 : Int32)))))]))
    refine ownVia (fun _ k => XS.ishl X0.here hx rfl (hb hby d1_15) rfl k) ?_
    show ownFin _ _ _ _ _ (T0.setTop (mkF m 16 #[.val (.int p1), .val (.int p2), .val (.int p3)] [(.int ((1 : Int32) <<< ((p2 - (2 : Int32)) &&& 31))), (.double (FP.ddiv (FP.i2d p1) (FP.i2d (p2 + (1 : Int32)))))]))
    refine ownVia (fun _ k => XS.goto X0.here hx rfl (pc0 := 16) (pc' := 20) rfl (hb hby d1_16) (by decide) (by decide) k) ?_
    show ownFin _ _ _ _ _ (T0.setTop (mkF m 20 #[.val (.int p1), .val (.int p2), .val (.int p3)] [(.int ((1 : Int32) <<< ((p2 - (2 : Int32)) &&& 31))), (.double (FP.ddiv (FP.i2d p1) (FP.i2d (p2 + (1 : Int32)))))]))
    refine ownVia (fun _ k => XS.i2dS X0.here hx rfl (hb hby d1_20) rfl rfl k) ?_
    show ownFin _ _ _ _ _ (T0.setTop (mkF m 21 #[.val (.int p1), .val (.int p2), .val (.int p3)] [(.double (FP.i2d ((1 : Int32) <<< ((p2 - (2 : Int32)) &&& 31)))), (.double (FP.ddiv (FP.i2d p1) (FP.i2d (p2 + (1 : Int32)))))]))
    refine ownVia (fun _ k => XS.daddS X0.here hx rfl (hb hby d1_21) rfl (own_nan2 _ _ hd0) rfl k) ?_
    show ownFin _ _ _ _ _ (T0.setTop (mkF m 22 #[.val (.int p1), .val (.int p2), .val (.int p3)] [(.double (FP.dadd (FP.ddiv (FP.i2d p1) (FP.i2d (p2 + (1 : Int32)))) (FP.i2d ((1 : Int32) <<< ((p2 - (2 : Int32)) &&& 31)))))]))
    refine ownRetD X0 hx hlk hret (hb hby d1_22) (by decide) (by decide) ?_
    show (Q_own_cost Z p1 p2 p3 h0 n0 ) (some (.double (FP.dadd (FP.ddiv (FP.i2d p1) (FP.i2d (p2 + (1 : Int32)))) (FP.i2d ((1 : Int32) <<< ((p2 - (2 : Int32)) &&& 31)))))) T0.heap _
    rw [e0]
    exact ⟨by rw [own_t1 hc6], N0, rfl⟩
theorem own_ef7 (m : MethodId) (p1 : Int32) (p2 : Int32) (p3 : Int32) : entryFrame m #[(.int p1), (.int p2), (.int p3)] maxLocals = mkF m 0 #[.val (.int p1), .val (.int p2), .val (.int p3), .unset, .unset, .unset, .unset, .unset, .unset, .unset, .unset, .unset, .unset, .unset, .unset, .unset, .unset, .unset, .unset, .unset, .unset, .unset, .unset, .unset, .unset] [] := by first | (simp [entryFrame, mkF, argsToLocals, Value.category, maxLocals]; done) | rfl
def Q_own_law (Z : State) (p1 : Int32) (p2 : Int32) (p3 : Int32) (h0 : Heap) (n0 : Nat)  : Option Value → Heap → List Loc → Prop := fun v h L => v = some (.int 1) ∧ Fr n0 L
theorem own_pd0 : parseMethodDescriptor "(IIZ)D" = some ⟨[.int, .int, .boolean], some .double⟩ := by decide +kernel
theorem own_pd1 : parseMethodDescriptor "(I)I" = some ⟨[.int], some .int⟩ := by decide +kernel
set_option maxRecDepth 65536 in
set_option maxHeartbeats 40000000 in
theorem own_law (l : Launch) (Z : State) (a0 : Array Value) (hw : ∀ d ∈ tables_1, d.before a0 Z = true) (ws : List Jvm.Cond) (p1 : Int32) (p2 : Int32) (p3 : Int32) (h0 : Heap) (n0 : Nat)  (Z0 : n0 ≤ h0.size)  :
    ownMet l Z x code maxLocals ret ws room_1 #[(.int p1), (.int p2), (.int p3)] h0 (Q_own_law Z p1 p2 p3 h0 n0 ) := by
  refine ownBody (plainFor_of_name own_pn0) ?_
  intro p e s m below meth c T0 hx hby hml hret hlk hZ hown hnm X0 e0
  have N0 : Fr n0 [] := Fr.nil n0
  have hown : s.vm.findClass "com/example/lacuna/lacuna/bls12381/SumOfProductsInterleavedCostPinLaw" = some m.cls := hown
  refine ownVia (fun _ k => castTop (own_ef7 m p1 p2 p3) k) ?_
  show ownFin _ _ _ _ _ (T0.setTop (mkF m 0 #[.val (.int p1), .val (.int p2), .val (.int p3), .unset, .unset, .unset, .unset, .unset, .unset, .unset, .unset, .unset, .unset, .unset, .unset, .unset, .unset, .unset, .unset, .unset, .unset, .unset, .unset, .unset, .unset] []))
  obtain ⟨i, hi, i1⟩ := own_bits p1
  have hwv := own_wid p2
  refine ownVia (fun _ k => XS.iloadN X0.here hx rfl (hb hby at_0) rfl k) ?_
  show ownFin _ _ _ _ _ (T0.setTop (mkF m 1 #[.val (.int p1), .val (.int p2), .val (.int p3), .unset, .unset, .unset, .unset, .unset, .unset, .unset, .unset, .unset, .unset, .unset, .unset, .unset, .unset, .unset, .unset, .unset, .unset, .unset, .unset, .unset, .unset] [(.int p1)]))
  refine ownVia (fun _ k => X0.ldcInt hx hown (mvT hZ (hw _ (List.mem_of_getElem? (i := 0) rfl))) (g := (mkF m 1 #[.val (.int p1), .val (.int p2), .val (.int p3), .unset, .unset, .unset, .unset, .unset, .unset, .unset, .unset, .unset, .unset, .unset, .unset, .unset, .unset, .unset, .unset, .unset, .unset, .unset, .unset, .unset, .unset] [(.int p1)])) rfl (hb hby at_1) _ k) ?_
  show ownFin _ _ _ _ _ (T0.setTop (mkF m 3 #[.val (.int p1), .val (.int p2), .val (.int p3), .unset, .unset, .unset, .unset, .unset, .unset, .unset, .unset, .unset, .unset, .unset, .unset, .unset, .unset, .unset, .unset, .unset, .unset, .unset, .unset, .unset, .unset] [(.int (2147483647 : Int32)), (.int p1)]))
  refine ownVia (fun _ k => XS.iand X0.here hx rfl (hb hby at_3) rfl k) ?_
  show ownFin _ _ _ _ _ (T0.setTop (mkF m 4 #[.val (.int p1), .val (.int p2), .val (.int p3), .unset, .unset, .unset, .unset, .unset, .unset, .unset, .unset, .unset, .unset, .unset, .unset, .unset, .unset, .unset, .unset, .unset, .unset, .unset, .unset, .unset, .unset] [(.int (p1 &&& (2147483647 : Int32)))]))
  refine ownVia (fun _ k => XS.istoreN X0.here hx rfl (hb hby at_4) rfl (l' := #[.val (.int p1), .val (.int p2), .val (.int p3), .val (.int (p1 &&& (2147483647 : Int32))), .unset, .unset, .unset, .unset, .unset, .unset, .unset, .unset, .unset, .unset, .unset, .unset, .unset, .unset, .unset, .unset, .unset, .unset, .unset, .unset, .unset]) rfl k) ?_
  show ownFin _ _ _ _ _ (T0.setTop (mkF m 5 #[.val (.int p1), .val (.int p2), .val (.int p3), .val (.int (p1 &&& (2147483647 : Int32))), .unset, .unset, .unset, .unset, .unset, .unset, .unset, .unset, .unset, .unset, .unset, .unset, .unset, .unset, .unset, .unset, .unset, .unset, .unset, .unset, .unset] []))
  refine ownVia (fun _ k => XS.iconst X0.here hx rfl (hb hby at_5) k) ?_
  show ownFin _ _ _ _ _ (T0.setTop (mkF m 6 #[.val (.int p1), .val (.int p2), .val (.int p3), .val (.int (p1 &&& (2147483647 : Int32))), .unset, .unset, .unset, .unset, .unset, .unset, .unset, .unset, .unset, .unset, .unset, .unset, .unset, .unset, .unset, .unset, .unset, .unset, .unset, .unset, .unset] [(.int (2 : Int32))]))
  refine ownVia (fun _ k => XS.iloadN X0.here hx rfl (hb hby at_6) rfl k) ?_
  show ownFin _ _ _ _ _ (T0.setTop (mkF m 7 #[.val (.int p1), .val (.int p2), .val (.int p3), .val (.int (p1 &&& (2147483647 : Int32))), .unset, .unset, .unset, .unset, .unset, .unset, .unset, .unset, .unset, .unset, .unset, .unset, .unset, .unset, .unset, .unset, .unset, .unset, .unset, .unset, .unset] [(.int p2), (.int (2 : Int32))]))
  refine ownVia (fun _ k => X0.ldcInt hx hown (mvT hZ (hw _ (List.mem_of_getElem? (i := 0) rfl))) (g := (mkF m 7 #[.val (.int p1), .val (.int p2), .val (.int p3), .val (.int (p1 &&& (2147483647 : Int32))), .unset, .unset, .unset, .unset, .unset, .unset, .unset, .unset, .unset, .unset, .unset, .unset, .unset, .unset, .unset, .unset, .unset, .unset, .unset, .unset, .unset] [(.int p2), (.int (2 : Int32))])) rfl (hb hby at_7) _ k) ?_
  show ownFin _ _ _ _ _ (T0.setTop (mkF m 9 #[.val (.int p1), .val (.int p2), .val (.int p3), .val (.int (p1 &&& (2147483647 : Int32))), .unset, .unset, .unset, .unset, .unset, .unset, .unset, .unset, .unset, .unset, .unset, .unset, .unset, .unset, .unset, .unset, .unset, .unset, .unset, .unset, .unset] [(.int (2147483647 : Int32)), (.int p2), (.int (2 : Int32))]))
  refine ownVia (fun _ k => XS.iand X0.here hx rfl (hb hby at_9) rfl k) ?_
  show ownFin _ _ _ _ _ (T0.setTop (mkF m 10 #[.val (.int p1), .val (.int p2), .val (.int p3), .val (.int (p1 &&& (2147483647 : Int32))), .unset, .unset, .unset, .unset, .unset, .unset, .unset, .unset, .unset, .unset, .unset, .unset, .unset, .unset, .unset, .unset, .unset, .unset, .unset, .unset, .unset] [(.int (p2 &&& (2147483647 : Int32))), (.int (2 : Int32))]))
  refine ownVia (fun _ k => XS.iconst X0.here hx rfl (hb hby at_10) k) ?_
  show ownFin _ _ _ _ _ (T0.setTop (mkF m 11 #[.val (.int p1), .val (.int p2), .val (.int p3), .val (.int (p1 &&& (2147483647 : Int32))), .unset, .unset, .unset, .unset, .unset, .unset, .unset, .unset, .unset, .unset, .unset, .unset, .unset, .unset, .unset, .unset, .unset, .unset, .unset, .unset, .unset] [(.int (4 : Int32)), (.int (p2 &&& (2147483647 : Int32))), (.int (2 : Int32))]))
  refine ownVia (fun _ k => iremM X0 hx rfl (hb hby at_11) rfl (by decide) k) ?_
  show ownFin _ _ _ _ _ (T0.setTop (mkF m 12 #[.val (.int p1), .val (.int p2), .val (.int p3), .val (.int (p1 &&& (2147483647 : Int32))), .unset, .unset, .unset, .unset, .unset, .unset, .unset, .unset, .unset, .unset, .unset, .unset, .unset, .unset, .unset, .unset, .unset, .unset, .unset, .unset, .unset] [(.int ((p2 &&& (2147483647 : Int32)) % (4 : Int32))), (.int (2 : Int32))]))
  refine ownVia (fun _ k => XS.iadd X0.here hx rfl (hb hby at_12) rfl k) ?_
  show ownFin _ _ _ _ _ (T0.setTop (mkF m 13 #[.val (.int p1), .val (.int p2), .val (.int p3), .val (.int (p1 &&& (2147483647 : Int32))), .unset, .unset, .unset, .unset, .unset, .unset, .unset, .unset, .unset, .unset, .unset, .unset, .unset, .unset, .unset, .unset, .unset, .unset, .unset, .unset, .unset] [(.int ((2 : Int32) + ((p2 &&& (2147483647 : Int32)) % (4 : Int32))))]))
  refine ownVia (fun _ k => XS.istore X0.here hx rfl (hb hby at_13) rfl (l' := #[.val (.int p1), .val (.int p2), .val (.int p3), .val (.int (p1 &&& (2147483647 : Int32))), .val (.int ((2 : Int32) + ((p2 &&& (2147483647 : Int32)) % (4 : Int32)))), .unset, .unset, .unset, .unset, .unset, .unset, .unset, .unset, .unset, .unset, .unset, .unset, .unset, .unset, .unset, .unset, .unset, .unset, .unset, .unset]) rfl k) ?_
  show ownFin _ _ _ _ _ (T0.setTop (mkF m 15 #[.val (.int p1), .val (.int p2), .val (.int p3), .val (.int (p1 &&& (2147483647 : Int32))), .val (.int ((2 : Int32) + ((p2 &&& (2147483647 : Int32)) % (4 : Int32)))), .unset, .unset, .unset, .unset, .unset, .unset, .unset, .unset, .unset, .unset, .unset, .unset, .unset, .unset, .unset, .unset, .unset, .unset, .unset, .unset] []))
  refine ownVia (fun _ k => XS.iloadN X0.here hx rfl (hb hby at_15) rfl k) ?_
  show ownFin _ _ _ _ _ (T0.setTop (mkF m 16 #[.val (.int p1), .val (.int p2), .val (.int p3), .val (.int (p1 &&& (2147483647 : Int32))), .val (.int ((2 : Int32) + ((p2 &&& (2147483647 : Int32)) % (4 : Int32)))), .unset, .unset, .unset, .unset, .unset, .unset, .unset, .unset, .unset, .unset, .unset, .unset, .unset, .unset, .unset, .unset, .unset, .unset, .unset, .unset] [(.int p3)]))
  refine ownVia (fun _ k => XS.iconst X0.here hx rfl (hb hby at_16) k) ?_
  show ownFin _ _ _ _ _ (T0.setTop (mkF m 17 #[.val (.int p1), .val (.int p2), .val (.int p3), .val (.int (p1 &&& (2147483647 : Int32))), .val (.int ((2 : Int32) + ((p2 &&& (2147483647 : Int32)) % (4 : Int32)))), .unset, .unset, .unset, .unset, .unset, .unset, .unset, .unset, .unset, .unset, .unset, .unset, .unset, .unset, .unset, .unset, .unset, .unset, .unset, .unset] [(.int (1 : Int32)), (.int p3)]))
  refine ownVia (fun _ k => XS.iand X0.here hx rfl (hb hby at_17) rfl k) ?_
  show ownFin _ _ _ _ _ (T0.setTop (mkF m 18 #[.val (.int p1), .val (.int p2), .val (.int p3), .val (.int (p1 &&& (2147483647 : Int32))), .val (.int ((2 : Int32) + ((p2 &&& (2147483647 : Int32)) % (4 : Int32)))), .unset, .unset, .unset, .unset, .unset, .unset, .unset, .unset, .unset, .unset, .unset, .unset, .unset, .unset, .unset, .unset, .unset, .unset, .unset, .unset] [(.int (p3 &&& (1 : Int32)))]))
  generalize h_bv : (p1 &&& (2147483647 : Int32)) = bv
  show ownFin _ _ _ _ _ (T0.setTop (mkF m 18 #[.val (.int p1), .val (.int p2), .val (.int p3), .val (.int bv), .val (.int ((2 : Int32) + ((p2 &&& (2147483647 : Int32)) % (4 : Int32)))), .unset, .unset, .unset, .unset, .unset, .unset, .unset, .unset, .unset, .unset, .unset, .unset, .unset, .unset, .unset, .unset, .unset, .unset, .unset, .unset] [(.int (p3 &&& (1 : Int32)))]))
  generalize h_wv : ((2 : Int32) + ((p2 &&& (2147483647 : Int32)) % (4 : Int32))) = wv
  show ownFin _ _ _ _ _ (T0.setTop (mkF m 18 #[.val (.int p1), .val (.int p2), .val (.int p3), .val (.int bv), .val (.int wv), .unset, .unset, .unset, .unset, .unset, .unset, .unset, .unset, .unset, .unset, .unset, .unset, .unset, .unset, .unset, .unset, .unset, .unset, .unset, .unset] [(.int (p3 &&& (1 : Int32)))]))
  rw [h_bv] at hi
  rw [h_wv] at hwv
  obtain ⟨j, hj, j1, j2⟩ := own_dw hwv
  by_cases hc8 : (p3 &&& (1 : Int32)) = (0 : Int32)
  case pos =>
    have hc8I : (p3 &&& (1 : Int32)).toInt = 0 := (own_eqi rfl (by decide)).mp hc8
    refine ownVia (fun _ k => XS.ifYes X0.here hx rfl (pc0 := 18) (pc' := 25) rfl (hb hby at_18) rfl ((if0 _ _).trans (teq hc8).1) (by decide) (by decide) k) ?_
    show ownFin _ _ _ _ _ (T0.setTop (mkF m 25 #[.val (.int p1), .val (.int p2), .val (.int p3), .val (.int bv), .val (.int wv), .unset, .unset, .unset, .unset, .unset, .unset, .unset, .unset, .unset, .unset, .unset, .unset, .unset, .unset, .unset, .unset, .unset, .unset, .unset, .unset] []))
    refine ownVia (fun _ k => XS.iconst X0.here hx rfl (hb hby at_25) k) ?_
    show ownFin _ _ _ _ _ (T0.setTop (mkF m 26 #[.val (.int p1), .val (.int p2), .val (.int p3), .val (.int bv), .val (.int wv), .unset, .unset, .unset, .unset, .unset, .unset, .unset, .unset, .unset, .unset, .unset, .unset, .unset, .unset, .unset, .unset, .unset, .unset, .unset, .unset] [(.int (0 : Int32))]))
    refine ownVia (fun _ k => XS.istore X0.here hx rfl (hb hby at_26) rfl (l' := #[.val (.int p1), .val (.int p2), .val (.int p3), .val (.int bv), .val (.int wv), .val (.int (0 : Int32)), .unset, .unset, .unset, .unset, .unset, .unset, .unset, .unset, .unset, .unset, .unset, .unset, .unset, .unset, .unset, .unset, .unset, .unset, .unset]) rfl k) ?_
    show ownFin _ _ _ _ _ (T0.setTop (mkF m 28 #[.val (.int p1), .val (.int p2), .val (.int p3), .val (.int bv), .val (.int wv), .val (.int (0 : Int32)), .unset, .unset, .unset, .unset, .unset, .unset, .unset, .unset, .unset, .unset, .unset, .unset, .unset, .unset, .unset, .unset, .unset, .unset, .unset] []))
    refine ownVia (fun _ k => XS.iload X0.here hx rfl (hb hby at_28) rfl k) ?_
    show ownFin _ _ _ _ _ (T0.setTop (mkF m 30 #[.val (.int p1), .val (.int p2), .val (.int p3), .val (.int bv), .val (.int wv), .val (.int (0 : Int32)), .unset, .unset, .unset, .unset, .unset, .unset, .unset, .unset, .unset, .unset, .unset, .unset, .unset, .unset, .unset, .unset, .unset, .unset, .unset] [(.int wv)]))
    refine ownVia (fun _ k => XS.iconst X0.here hx rfl (hb hby at_30) k) ?_
    show ownFin _ _ _ _ _ (T0.setTop (mkF m 31 #[.val (.int p1), .val (.int p2), .val (.int p3), .val (.int bv), .val (.int wv), .val (.int (0 : Int32)), .unset, .unset, .unset, .unset, .unset, .unset, .unset, .unset, .unset, .unset, .unset, .unset, .unset, .unset, .unset, .unset, .unset, .unset, .unset] [(.int (1 : Int32)), (.int wv)]))
    refine ownVia (fun _ k => XS.iadd X0.here hx rfl (hb hby at_31) rfl k) ?_
    show ownFin _ _ _ _ _ (T0.setTop (mkF m 32 #[.val (.int p1), .val (.int p2), .val (.int p3), .val (.int bv), .val (.int wv), .val (.int (0 : Int32)), .unset, .unset, .unset, .unset, .unset, .unset, .unset, .unset, .unset, .unset, .unset, .unset, .unset, .unset, .unset, .unset, .unset, .unset, .unset] [(.int (wv + (1 : Int32)))]))
    refine ownVia (fun _ k => XS.istore X0.here hx rfl (hb hby at_32) rfl (l' := #[.val (.int p1), .val (.int p2), .val (.int p3), .val (.int bv), .val (.int wv), .val (.int (0 : Int32)), .val (.int (wv + (1 : Int32))), .unset, .unset, .unset, .unset, .unset, .unset, .unset, .unset, .unset, .unset, .unset, .unset, .unset, .unset, .unset, .unset, .unset, .unset]) rfl k) ?_
    show ownFin _ _ _ _ _ (T0.setTop (mkF m 34 #[.val (.int p1), .val (.int p2), .val (.int p3), .val (.int bv), .val (.int wv), .val (.int (0 : Int32)), .val (.int (wv + (1 : Int32))), .unset, .unset, .unset, .unset, .unset, .unset, .unset, .unset, .unset, .unset, .unset, .unset, .unset, .unset, .unset, .unset, .unset, .unset] []))
    refine ownVia (fun _ k => XS.iloadN X0.here hx rfl (hb hby at_34) rfl k) ?_
    show ownFin _ _ _ _ _ (T0.setTop (mkF m 35 #[.val (.int p1), .val (.int p2), .val (.int p3), .val (.int bv), .val (.int wv), .val (.int (0 : Int32)), .val (.int (wv + (1 : Int32))), .unset, .unset, .unset, .unset, .unset, .unset, .unset, .unset, .unset, .unset, .unset, .unset, .unset, .unset, .unset, .unset, .unset, .unset] [(.int bv)]))
    refine ownVia (fun _ k => XS.iload X0.here hx rfl (hb hby at_35) rfl k) ?_
    show ownFin _ _ _ _ _ (T0.setTop (mkF m 37 #[.val (.int p1), .val (.int p2), .val (.int p3), .val (.int bv), .val (.int wv), .val (.int (0 : Int32)), .val (.int (wv + (1 : Int32))), .unset, .unset, .unset, .unset, .unset, .unset, .unset, .unset, .unset, .unset, .unset, .unset, .unset, .unset, .unset, .unset, .unset, .unset] [(.int (wv + (1 : Int32))), (.int bv)]))
    generalize h_dv : (wv + (1 : Int32)) = dv
    show ownFin _ _ _ _ _ (T0.setTop (mkF m 37 #[.val (.int p1), .val (.int p2), .val (.int p3), .val (.int bv), .val (.int wv), .val (.int (0 : Int32)), .val (.int dv), .unset, .unset, .unset, .unset, .unset, .unset, .unset, .unset, .unset, .unset, .unset, .unset, .unset, .unset, .unset, .unset, .unset, .unset] [(.int dv), (.int bv)]))
    have hj0 := hj
    rw [h_dv] at hj
    have dv0 : dv ≠ 0 := fun q => by rw [q, show (0 : Int32).toInt = 0 by decide] at hj; omega
    refine ownVia (fun _ k => XS.idiv X0.here hx rfl (hb hby at_37) rfl dv0 k) ?_
    show ownFin _ _ _ _ _ (T0.setTop (mkF m 38 #[.val (.int p1), .val (.int p2), .val (.int p3), .val (.int bv), .val (.int wv), .val (.int (0 : Int32)), .val (.int dv), .unset, .unset, .unset, .unset, .unset, .unset, .unset, .unset, .unset, .unset, .unset, .unset, .unset, .unset, .unset, .unset, .unset, .unset] [(.int (bv / dv))]))
    refine ownVia (fun _ k => XS.i2l X0.here hx rfl (hb hby at_38) rfl k) ?_
    show ownFin _ _ _ _ _ (T0.setTop (mkF m 39 #[.val (.int p1), .val (.int p2), .val (.int p3), .val (.int bv), .val (.int wv), .val (.int (0 : Int32)), .val (.int dv), .unset, .unset, .unset, .unset, .unset, .unset, .unset, .unset, .unset, .unset, .unset, .unset, .unset, .unset, .unset, .unset, .unset, .unset] [(.long ((bv / dv).toInt64))]))
    refine ownVia (fun _ k => XS.lstore X0.here hx rfl (hb hby at_39) rfl (l' := #[.val (.int p1), .val (.int p2), .val (.int p3), .val (.int bv), .val (.int wv), .val (.int (0 : Int32)), .val (.int dv), .val (.long ((bv / dv).toInt64)), .second, .unset, .unset, .unset, .unset, .unset, .unset, .unset, .unset, .unset, .unset, .unset, .unset, .unset, .unset, .unset, .unset]) rfl k) ?_
    show ownFin _ _ _ _ _ (T0.setTop (mkF m 41 #[.val (.int p1), .val (.int p2), .val (.int p3), .val (.int bv), .val (.int wv), .val (.int (0 : Int32)), .val (.int dv), .val (.long ((bv / dv).toInt64)), .second, .unset, .unset, .unset, .unset, .unset, .unset, .unset, .unset, .unset, .unset, .unset, .unset, .unset, .unset, .unset, .unset] []))
    refine ownVia (fun _ k => XS.iloadN X0.here hx rfl (hb hby at_41) rfl k) ?_
    show ownFin _ _ _ _ _ (T0.setTop (mkF m 42 #[.val (.int p1), .val (.int p2), .val (.int p3), .val (.int bv), .val (.int wv), .val (.int (0 : Int32)), .val (.int dv), .val (.long ((bv / dv).toInt64)), .second, .unset, .unset, .unset, .unset, .unset, .unset, .unset, .unset, .unset, .unset, .unset, .unset, .unset, .unset, .unset, .unset] [(.int bv)]))
    refine ownVia (fun _ k => XS.iload X0.here hx rfl (hb hby at_42) rfl k) ?_
    show ownFin _ _ _ _ _ (T0.setTop (mkF m 44 #[.val (.int p1), .val (.int p2), .val (.int p3), .val (.int bv), .val (.int wv), .val (.int (0 : Int32)), .val (.int dv), .val (.long ((bv / dv).toInt64)), .second, .unset, .unset, .unset, .unset, .unset, .unset, .unset, .unset, .unset, .unset, .unset, .unset, .unset, .unset, .unset, .unset] [(.int dv), (.int bv)]))
    refine ownVia (fun _ k => iremM X0 hx rfl (hb hby at_44) rfl dv0 k) ?_
    show ownFin _ _ _ _ _ (T0.setTop (mkF m 45 #[.val (.int p1), .val (.int p2), .val (.int p3), .val (.int bv), .val (.int wv), .val (.int (0 : Int32)), .val (.int dv), .val (.long ((bv / dv).toInt64)), .second, .unset, .unset, .unset, .unset, .unset, .unset, .unset, .unset, .unset, .unset, .unset, .unset, .unset, .unset, .unset, .unset] [(.int (bv % dv))]))
    refine ownVia (fun _ k => XS.i2l X0.here hx rfl (hb hby at_45) rfl k) ?_
    show ownFin _ _ _ _ _ (T0.setTop (mkF m 46 #[.val (.int p1), .val (.int p2), .val (.int p3), .val (.int bv), .val (.int wv), .val (.int (0 : Int32)), .val (.int dv), .val (.long ((bv / dv).toInt64)), .second, .unset, .unset, .unset, .unset, .unset, .unset, .unset, .unset, .unset, .unset, .unset, .unset, .unset, .unset, .unset, .unset] [(.long ((bv % dv).toInt64))]))
    refine ownVia (fun _ k => XS.lstore X0.here hx rfl (hb hby at_46) rfl (l' := #[.val (.int p1), .val (.int p2), .val (.int p3), .val (.int bv), .val (.int wv), .val (.int (0 : Int32)), .val (.int dv), .val (.long ((bv / dv).toInt64)), .second, .val (.long ((bv % dv).toInt64)), .second, .unset, .unset, .unset, .unset, .unset, .unset, .unset, .unset, .unset, .unset, .unset, .unset, .unset, .unset]) rfl k) ?_
    show ownFin _ _ _ _ _ (T0.setTop (mkF m 48 #[.val (.int p1), .val (.int p2), .val (.int p3), .val (.int bv), .val (.int wv), .val (.int (0 : Int32)), .val (.int dv), .val (.long ((bv / dv).toInt64)), .second, .val (.long ((bv % dv).toInt64)), .second, .unset, .unset, .unset, .unset, .unset, .unset, .unset, .unset, .unset, .unset, .unset, .unset, .unset, .unset] []))
    refine ownVia (fun _ k => XS.iload X0.here hx rfl (hb hby at_48) rfl k) ?_
    show ownFin _ _ _ _ _ (T0.setTop (mkF m 50 #[.val (.int p1), .val (.int p2), .val (.int p3), .val (.int bv), .val (.int wv), .val (.int (0 : Int32)), .val (.int dv), .val (.long ((bv / dv).toInt64)), .second, .val (.long ((bv % dv).toInt64)), .second, .unset, .unset, .unset, .unset, .unset, .unset, .unset, .unset, .unset, .unset, .unset, .unset, .unset, .unset] [(.int (0 : Int32))]))
    have hmq := own_quo hi hj
    have hrq := own_mod hi hj
    generalize h_mq : ((bv / dv).toInt64) = mq
    show ownFin _ _ _ _ _ (T0.setTop (mkF m 50 #[.val (.int p1), .val (.int p2), .val (.int p3), .val (.int bv), .val (.int wv), .val (.int (0 : Int32)), .val (.int dv), .val (.long mq), .second, .val (.long ((bv % dv).toInt64)), .second, .unset, .unset, .unset, .unset, .unset, .unset, .unset, .unset, .unset, .unset, .unset, .unset, .unset, .unset] [(.int (0 : Int32))]))
    generalize h_rq : ((bv % dv).toInt64) = rq
    show ownFin _ _ _ _ _ (T0.setTop (mkF m 50 #[.val (.int p1), .val (.int p2), .val (.int p3), .val (.int bv), .val (.int wv), .val (.int (0 : Int32)), .val (.int dv), .val (.long mq), .second, .val (.long rq), .second, .unset, .unset, .unset, .unset, .unset, .unset, .unset, .unset, .unset, .unset, .unset, .unset, .unset, .unset] [(.int (0 : Int32))]))
    rw [h_mq] at hmq
    rw [h_rq] at hrq
    refine ownVia (fun _ k => XS.ifYes X0.here hx rfl (pc0 := 50) (pc' := 62) rfl (hb hby at_50) rfl ((if0 _ _).trans (teq (by decide)).1) (by decide) (by decide) k) ?_
    show ownFin _ _ _ _ _ (T0.setTop (mkF m 62 #[.val (.int p1), .val (.int p2), .val (.int p3), .val (.int bv), .val (.int wv), .val (.int (0 : Int32)), .val (.int dv), .val (.long mq), .second, .val (.long rq), .second, .unset, .unset, .unset, .unset, .unset, .unset, .unset, .unset, .unset, .unset, .unset, .unset, .unset, .unset] []))
    refine ownVia (fun _ k => XS.lconst X0.here hx rfl (hb hby at_62) k) ?_
    show ownFin _ _ _ _ _ (T0.setTop (mkF m 63 #[.val (.int p1), .val (.int p2), .val (.int p3), .val (.int bv), .val (.int wv), .val (.int (0 : Int32)), .val (.int dv), .val (.long mq), .second, .val (.long rq), .second, .unset, .unset, .unset, .unset, .unset, .unset, .unset, .unset, .unset, .unset, .unset, .unset, .unset, .unset] [(.long (0 : Int64))]))
    refine ownVia (fun _ k => XS.lstore X0.here hx rfl (hb hby at_63) rfl (l' := #[.val (.int p1), .val (.int p2), .val (.int p3), .val (.int bv), .val (.int wv), .val (.int (0 : Int32)), .val (.int dv), .val (.long mq), .second, .val (.long rq), .second, .val (.long (0 : Int64)), .second, .unset, .unset, .unset, .unset, .unset, .unset, .unset, .unset, .unset, .unset, .unset, .unset]) rfl k) ?_
    show ownFin _ _ _ _ _ (T0.setTop (mkF m 65 #[.val (.int p1), .val (.int p2), .val (.int p3), .val (.int bv), .val (.int wv), .val (.int (0 : Int32)), .val (.int dv), .val (.long mq), .second, .val (.long rq), .second, .val (.long (0 : Int64)), .second, .unset, .unset, .unset, .unset, .unset, .unset, .unset, .unset, .unset, .unset, .unset, .unset] []))
    refine ownVia (fun _ k => XS.iloadN X0.here hx rfl (hb hby at_65) rfl k) ?_
    show ownFin _ _ _ _ _ (T0.setTop (mkF m 66 #[.val (.int p1), .val (.int p2), .val (.int p3), .val (.int bv), .val (.int wv), .val (.int (0 : Int32)), .val (.int dv), .val (.long mq), .second, .val (.long rq), .second, .val (.long (0 : Int64)), .second, .unset, .unset, .unset, .unset, .unset, .unset, .unset, .unset, .unset, .unset, .unset, .unset] [(.int bv)]))
    refine ownVia (fun _ k => XS.iload X0.here hx rfl (hb hby at_66) rfl k) ?_
    show ownFin _ _ _ _ _ (T0.setTop (mkF m 68 #[.val (.int p1), .val (.int p2), .val (.int p3), .val (.int bv), .val (.int wv), .val (.int (0 : Int32)), .val (.int dv), .val (.long mq), .second, .val (.long rq), .second, .val (.long (0 : Int64)), .second, .unset, .unset, .unset, .unset, .unset, .unset, .unset, .unset, .unset, .unset, .unset, .unset] [(.int wv), (.int bv)]))
    refine ownVia (fun _ k => XS.iload X0.here hx rfl (hb hby at_68) rfl k) ?_
    show ownFin _ _ _ _ _ (T0.setTop (mkF m 70 #[.val (.int p1), .val (.int p2), .val (.int p3), .val (.int bv), .val (.int wv), .val (.int (0 : Int32)), .val (.int dv), .val (.long mq), .second, .val (.long rq), .second, .val (.long (0 : Int64)), .second, .unset, .unset, .unset, .unset, .unset, .unset, .unset, .unset, .unset, .unset, .unset, .unset] [(.int (0 : Int32)), (.int wv), (.int bv)]))
    have hu : ((own_t wv (0 : Int32)).toInt64).toInt = ((0 : Nat) : Int) := by rw [own_t0 rfl]; decide
    have u1 : 0 ≤ 8 := by decide
    refine ownCallS X0 hx hZ hown (hw _ (List.mem_of_getElem? (i := 1) rfl)) (hw _ (List.mem_of_getElem? (i := 2) rfl)) (hw _ (List.mem_of_getElem? (i := 3) rfl)) (hw _ (List.mem_of_getElem? (i := 4) rfl)) (by decide) e0 (own_cost l Z a0 hw bv wv (0 : Int32) h0 n0 Z0 (by rw [hj0]; omega)) (by rw [hml]; rfl) [(.int bv), (.int wv), (.int (0 : Int32))] [] (lenOf own_pd0 rfl) rfl rfl 0 rfl (hb hby at_70) (by decide) (by decide) (by decide) (by decide) ?_
    intro v9 T9 L9 X9 hq9
    obtain ⟨rfl, N9q, eq9⟩ := hq9
    have N9 := Fr.app N0 N9q
    have e9 : T9.heap = h0 := eq9
    show ownFin _ _ _ _ _ (T9.setTop (mkF m 73 #[.val (.int p1), .val (.int p2), .val (.int p3), .val (.int bv), .val (.int wv), .val (.int (0 : Int32)), .val (.int dv), .val (.long mq), .second, .val (.long rq), .second, .val (.long (0 : Int64)), .second, .unset, .unset, .unset, .unset, .unset, .unset, .unset, .unset, .unset, .unset, .unset, .unset] [(.double (FP.dadd (FP.ddiv (FP.i2d bv) (FP.i2d (wv + (1 : Int32)))) (FP.i2d (own_t wv (0 : Int32)))))]))
    have nr : Jvm.Free.Fl.NoNaN64 (FP.dadd (FP.dadd (FP.ddiv (FP.i2d bv) (FP.i2d (wv + (1 : Int32)))) (FP.i2d (own_t wv (0 : Int32)))) (FP.dadd (FP.ddiv (FP.i2d bv) (FP.i2d (wv + (1 : Int32)))) (FP.i2d (own_t wv (0 : Int32))))) := own_nan3 bv _ (by rw [hj0]; omega)
    have er : (FP.dadd (FP.ddiv (FP.i2d bv) (FP.i2d (wv + (1 : Int32)))) (FP.i2d (own_t wv (0 : Int32)))) = FP.dadd (FP.ddiv (FP.l2d bv.toInt64) (FP.l2d (wv + (1 : Int32)).toInt64)) (FP.l2d (own_t wv (0 : Int32)).toInt64) := by rw [i2d_w, i2d_w, i2d_w]
    generalize h_r : (FP.dadd (FP.ddiv (FP.i2d bv) (FP.i2d (wv + (1 : Int32)))) (FP.i2d (own_t wv (0 : Int32)))) = r
    show ownFin _ _ _ _ _ (T9.setTop (mkF m 73 #[.val (.int p1), .val (.int p2), .val (.int p3), .val (.int bv), .val (.int wv), .val (.int (0 : Int32)), .val (.int dv), .val (.long mq), .second, .val (.long rq), .second, .val (.long (0 : Int64)), .second, .unset, .unset, .unset, .unset, .unset, .unset, .unset, .unset, .unset, .unset, .unset, .unset] [(.double r)]))
    rw [h_r] at nr er
    rw [h_dv] at er
    refine ownVia (fun _ k => XS.dstore X9.here hx rfl (hb hby at_73) rfl (l' := #[.val (.int p1), .val (.int p2), .val (.int p3), .val (.int bv), .val (.int wv), .val (.int (0 : Int32)), .val (.int dv), .val (.long mq), .second, .val (.long rq), .second, .val (.long (0 : Int64)), .second, .val (.double r), .second, .unset, .unset, .unset, .unset, .unset, .unset, .unset, .unset, .unset, .unset]) rfl k) ?_
    show ownFin _ _ _ _ _ (T9.setTop (mkF m 75 #[.val (.int p1), .val (.int p2), .val (.int p3), .val (.int bv), .val (.int wv), .val (.int (0 : Int32)), .val (.int dv), .val (.long mq), .second, .val (.long rq), .second, .val (.long (0 : Int64)), .second, .val (.double r), .second, .unset, .unset, .unset, .unset, .unset, .unset, .unset, .unset, .unset, .unset] []))
    refine ownVia (fun _ k => XS.dload X9.here hx rfl (hb hby at_75) rfl k) ?_
    show ownFin _ _ _ _ _ (T9.setTop (mkF m 77 #[.val (.int p1), .val (.int p2), .val (.int p3), .val (.int bv), .val (.int wv), .val (.int (0 : Int32)), .val (.int dv), .val (.long mq), .second, .val (.long rq), .second, .val (.long (0 : Int64)), .second, .val (.double r), .second, .unset, .unset, .unset, .unset, .unset, .unset, .unset, .unset, .unset, .unset] [(.double r)]))
    refine ownVia (fun _ k => XS.dload X9.here hx rfl (hb hby at_77) rfl k) ?_
    show ownFin _ _ _ _ _ (T9.setTop (mkF m 79 #[.val (.int p1), .val (.int p2), .val (.int p3), .val (.int bv), .val (.int wv), .val (.int (0 : Int32)), .val (.int dv), .val (.long mq), .second, .val (.long rq), .second, .val (.long (0 : Int64)), .second, .val (.double r), .second, .unset, .unset, .unset, .unset, .unset, .unset, .unset, .unset, .unset, .unset] [(.double r), (.double r)]))
    refine ownVia (fun _ k => XS.daddS X9.here hx rfl (hb hby at_79) rfl nr rfl k) ?_
    show ownFin _ _ _ _ _ (T9.setTop (mkF m 80 #[.val (.int p1), .val (.int p2), .val (.int p3), .val (.int bv), .val (.int wv), .val (.int (0 : Int32)), .val (.int dv), .val (.long mq), .second, .val (.long rq), .second, .val (.long (0 : Int64)), .second, .val (.double r), .second, .unset, .unset, .unset, .unset, .unset, .unset, .unset, .unset, .unset, .unset] [(.double (FP.dadd r r))]))
    refine ownVia (fun _ k => XS.dstore X9.here hx rfl (hb hby at_80) rfl (l' := #[.val (.int p1), .val (.int p2), .val (.int p3), .val (.int bv), .val (.int wv), .val (.int (0 : Int32)), .val (.int dv), .val (.long mq), .second, .val (.long rq), .second, .val (.long (0 : Int64)), .second, .val (.double r), .second, .val (.double (FP.dadd r r)), .second, .unset, .unset, .unset, .unset, .unset, .unset, .unset, .unset]) rfl k) ?_
    show ownFin _ _ _ _ _ (T9.setTop (mkF m 82 #[.val (.int p1), .val (.int p2), .val (.int p3), .val (.int bv), .val (.int wv), .val (.int (0 : Int32)), .val (.int dv), .val (.long mq), .second, .val (.long rq), .second, .val (.long (0 : Int64)), .second, .val (.double r), .second, .val (.double (FP.dadd r r)), .second, .unset, .unset, .unset, .unset, .unset, .unset, .unset, .unset] []))
    refine ownVia (fun _ k => X9.ldc2Long hx hown (mvT hZ (hw _ (List.mem_of_getElem? (i := 5) rfl))) (g := (mkF m 82 #[.val (.int p1), .val (.int p2), .val (.int p3), .val (.int bv), .val (.int wv), .val (.int (0 : Int32)), .val (.int dv), .val (.long mq), .second, .val (.long rq), .second, .val (.long (0 : Int64)), .second, .val (.double r), .second, .val (.double (FP.dadd r r)), .second, .unset, .unset, .unset, .unset, .unset, .unset, .unset, .unset] [])) rfl (hb hby at_82) _ k) ?_
    show ownFin _ _ _ _ _ (T9.setTop (mkF m 85 #[.val (.int p1), .val (.int p2), .val (.int p3), .val (.int bv), .val (.int wv), .val (.int (0 : Int32)), .val (.int dv), .val (.long mq), .second, .val (.long rq), .second, .val (.long (0 : Int64)), .second, .val (.double r), .second, .val (.double (FP.dadd r r)), .second, .unset, .unset, .unset, .unset, .unset, .unset, .unset, .unset] [(.long (2 : Int64))]))
    refine ownVia (fun _ k => XS.lload X9.here hx rfl (hb hby at_85) rfl k) ?_
    show ownFin _ _ _ _ _ (T9.setTop (mkF m 87 #[.val (.int p1), .val (.int p2), .val (.int p3), .val (.int bv), .val (.int wv), .val (.int (0 : Int32)), .val (.int dv), .val (.long mq), .second, .val (.long rq), .second, .val (.long (0 : Int64)), .second, .val (.double r), .second, .val (.double (FP.dadd r r)), .second, .unset, .unset, .unset, .unset, .unset, .unset, .unset, .unset] [(.long mq), (.long (2 : Int64))]))
    refine ownVia (fun _ k => XS.lload X9.here hx rfl (hb hby at_87) rfl k) ?_
    show ownFin _ _ _ _ _ (T9.setTop (mkF m 89 #[.val (.int p1), .val (.int p2), .val (.int p3), .val (.int bv), .val (.int wv), .val (.int (0 : Int32)), .val (.int dv), .val (.long mq), .second, .val (.long rq), .second, .val (.long (0 : Int64)), .second, .val (.double r), .second, .val (.double (FP.dadd r r)), .second, .unset, .unset, .unset, .unset, .unset, .unset, .unset, .unset] [(.long (0 : Int64)), (.long mq), (.long (2 : Int64))]))
    refine ownVia (fun _ k => XS.ladd X9.here hx rfl (hb hby at_89) rfl k) ?_
    show ownFin _ _ _ _ _ (T9.setTop (mkF m 90 #[.val (.int p1), .val (.int p2), .val (.int p3), .val (.int bv), .val (.int wv), .val (.int (0 : Int32)), .val (.int dv), .val (.long mq), .second, .val (.long rq), .second, .val (.long (0 : Int64)), .second, .val (.double r), .second, .val (.double (FP.dadd r r)), .second, .unset, .unset, .unset, .unset, .unset, .unset, .unset, .unset] [(.long (mq + (0 : Int64))), (.long (2 : Int64))]))
    refine ownVia (fun _ k => XS.lmul X9.here hx rfl (hb hby at_90) rfl k) ?_
    show ownFin _ _ _ _ _ (T9.setTop (mkF m 91 #[.val (.int p1), .val (.int p2), .val (.int p3), .val (.int bv), .val (.int wv), .val (.int (0 : Int32)), .val (.int dv), .val (.long mq), .second, .val (.long rq), .second, .val (.long (0 : Int64)), .second, .val (.double r), .second, .val (.double (FP.dadd r r)), .second, .unset, .unset, .unset, .unset, .unset, .unset, .unset, .unset] [(.long ((2 : Int64) * (mq + (0 : Int64))))]))
    refine ownVia (fun _ k => XS.lstore X9.here hx rfl (hb hby at_91) rfl (l' := #[.val (.int p1), .val (.int p2), .val (.int p3), .val (.int bv), .val (.int wv), .val (.int (0 : Int32)), .val (.int dv), .val (.long mq), .second, .val (.long rq), .second, .val (.long (0 : Int64)), .second, .val (.double r), .second, .val (.double (FP.dadd r r)), .second, .val (.long ((2 : Int64) * (mq + (0 : Int64)))), .second, .unset, .unset, .unset, .unset, .unset, .unset]) rfl k) ?_
    show ownFin _ _ _ _ _ (T9.setTop (mkF m 93 #[.val (.int p1), .val (.int p2), .val (.int p3), .val (.int bv), .val (.int wv), .val (.int (0 : Int32)), .val (.int dv), .val (.long mq), .second, .val (.long rq), .second, .val (.long (0 : Int64)), .second, .val (.double r), .second, .val (.double (FP.dadd r r)), .second, .val (.long ((2 : Int64) * (mq + (0 : Int64)))), .second, .unset, .unset, .unset, .unset, .unset, .unset] []))
    refine ownVia (fun _ k => XS.lload X9.here hx rfl (hb hby at_93) rfl k) ?_
    show ownFin _ _ _ _ _ (T9.setTop (mkF m 95 #[.val (.int p1), .val (.int p2), .val (.int p3), .val (.int bv), .val (.int wv), .val (.int (0 : Int32)), .val (.int dv), .val (.long mq), .second, .val (.long rq), .second, .val (.long (0 : Int64)), .second, .val (.double r), .second, .val (.double (FP.dadd r r)), .second, .val (.long ((2 : Int64) * (mq + (0 : Int64)))), .second, .unset, .unset, .unset, .unset, .unset, .unset] [(.long ((2 : Int64) * (mq + (0 : Int64))))]))
    refine ownVia (fun _ k => XS.l2dS X9.here hx rfl (hb hby at_95) rfl rfl k) ?_
    show ownFin _ _ _ _ _ (T9.setTop (mkF m 96 #[.val (.int p1), .val (.int p2), .val (.int p3), .val (.int bv), .val (.int wv), .val (.int (0 : Int32)), .val (.int dv), .val (.long mq), .second, .val (.long rq), .second, .val (.long (0 : Int64)), .second, .val (.double r), .second, .val (.double (FP.dadd r r)), .second, .val (.long ((2 : Int64) * (mq + (0 : Int64)))), .second, .unset, .unset, .unset, .unset, .unset, .unset] [(.double (FP.l2d ((2 : Int64) * (mq + (0 : Int64)))))]))
    refine ownVia (fun _ k => XS.dstore X9.here hx rfl (hb hby at_96) rfl (l' := #[.val (.int p1), .val (.int p2), .val (.int p3), .val (.int bv), .val (.int wv), .val (.int (0 : Int32)), .val (.int dv), .val (.long mq), .second, .val (.long rq), .second, .val (.long (0 : Int64)), .second, .val (.double r), .second, .val (.double (FP.dadd r r)), .second, .val (.long ((2 : Int64) * (mq + (0 : Int64)))), .second, .val (.double (FP.l2d ((2 : Int64) * (mq + (0 : Int64))))), .second, .unset, .unset, .unset, .unset]) rfl k) ?_
    show ownFin _ _ _ _ _ (T9.setTop (mkF m 98 #[.val (.int p1), .val (.int p2), .val (.int p3), .val (.int bv), .val (.int wv), .val (.int (0 : Int32)), .val (.int dv), .val (.long mq), .second, .val (.long rq), .second, .val (.long (0 : Int64)), .second, .val (.double r), .second, .val (.double (FP.dadd r r)), .second, .val (.long ((2 : Int64) * (mq + (0 : Int64)))), .second, .val (.double (FP.l2d ((2 : Int64) * (mq + (0 : Int64))))), .second, .unset, .unset, .unset, .unset] []))
    refine ownVia (fun _ k => XS.lload X9.here hx rfl (hb hby at_98) rfl k) ?_
    show ownFin _ _ _ _ _ (T9.setTop (mkF m 100 #[.val (.int p1), .val (.int p2), .val (.int p3), .val (.int bv), .val (.int wv), .val (.int (0 : Int32)), .val (.int dv), .val (.long mq), .second, .val (.long rq), .second, .val (.long (0 : Int64)), .second, .val (.double r), .second, .val (.double (FP.dadd r r)), .second, .val (.long ((2 : Int64) * (mq + (0 : Int64)))), .second, .val (.double (FP.l2d ((2 : Int64) * (mq + (0 : Int64))))), .second, .unset, .unset, .unset, .unset] [(.long ((2 : Int64) * (mq + (0 : Int64))))]))
    refine ownVia (fun _ k => XS.lconst X9.here hx rfl (hb hby at_100) k) ?_
    show ownFin _ _ _ _ _ (T9.setTop (mkF m 101 #[.val (.int p1), .val (.int p2), .val (.int p3), .val (.int bv), .val (.int wv), .val (.int (0 : Int32)), .val (.int dv), .val (.long mq), .second, .val (.long rq), .second, .val (.long (0 : Int64)), .second, .val (.double r), .second, .val (.double (FP.dadd r r)), .second, .val (.long ((2 : Int64) * (mq + (0 : Int64)))), .second, .val (.double (FP.l2d ((2 : Int64) * (mq + (0 : Int64))))), .second, .unset, .unset, .unset, .unset] [(.long (1 : Int64)), (.long ((2 : Int64) * (mq + (0 : Int64))))]))
    refine ownVia (fun _ k => XS.ladd X9.here hx rfl (hb hby at_101) rfl k) ?_
    show ownFin _ _ _ _ _ (T9.setTop (mkF m 102 #[.val (.int p1), .val (.int p2), .val (.int p3), .val (.int bv), .val (.int wv), .val (.int (0 : Int32)), .val (.int dv), .val (.long mq), .second, .val (.long rq), .second, .val (.long (0 : Int64)), .second, .val (.double r), .second, .val (.double (FP.dadd r r)), .second, .val (.long ((2 : Int64) * (mq + (0 : Int64)))), .second, .val (.double (FP.l2d ((2 : Int64) * (mq + (0 : Int64))))), .second, .unset, .unset, .unset, .unset] [(.long (((2 : Int64) * (mq + (0 : Int64))) + (1 : Int64)))]))
    refine ownVia (fun _ k => XS.l2dS X9.here hx rfl (hb hby at_102) rfl rfl k) ?_
    show ownFin _ _ _ _ _ (T9.setTop (mkF m 103 #[.val (.int p1), .val (.int p2), .val (.int p3), .val (.int bv), .val (.int wv), .val (.int (0 : Int32)), .val (.int dv), .val (.long mq), .second, .val (.long rq), .second, .val (.long (0 : Int64)), .second, .val (.double r), .second, .val (.double (FP.dadd r r)), .second, .val (.long ((2 : Int64) * (mq + (0 : Int64)))), .second, .val (.double (FP.l2d ((2 : Int64) * (mq + (0 : Int64))))), .second, .unset, .unset, .unset, .unset] [(.double (FP.l2d (((2 : Int64) * (mq + (0 : Int64))) + (1 : Int64))))]))
    refine ownVia (fun _ k => XS.dstore X9.here hx rfl (hb hby at_103) rfl (l' := #[.val (.int p1), .val (.int p2), .val (.int p3), .val (.int bv), .val (.int wv), .val (.int (0 : Int32)), .val (.int dv), .val (.long mq), .second, .val (.long rq), .second, .val (.long (0 : Int64)), .second, .val (.double r), .second, .val (.double (FP.dadd r r)), .second, .val (.long ((2 : Int64) * (mq + (0 : Int64)))), .second, .val (.double (FP.l2d ((2 : Int64) * (mq + (0 : Int64))))), .second, .val (.double (FP.l2d (((2 : Int64) * (mq + (0 : Int64))) + (1 : Int64)))), .second, .unset, .unset]) rfl k) ?_
    show ownFin _ _ _ _ _ (T9.setTop (mkF m 105 #[.val (.int p1), .val (.int p2), .val (.int p3), .val (.int bv), .val (.int wv), .val (.int (0 : Int32)), .val (.int dv), .val (.long mq), .second, .val (.long rq), .second, .val (.long (0 : Int64)), .second, .val (.double r), .second, .val (.double (FP.dadd r r)), .second, .val (.long ((2 : Int64) * (mq + (0 : Int64)))), .second, .val (.double (FP.l2d ((2 : Int64) * (mq + (0 : Int64))))), .second, .val (.double (FP.l2d (((2 : Int64) * (mq + (0 : Int64))) + (1 : Int64)))), .second, .unset, .unset] []))
    refine ownVia (fun _ k => XS.lload X9.here hx rfl (hb hby at_105) rfl k) ?_
    show ownFin _ _ _ _ _ (T9.setTop (mkF m 107 #[.val (.int p1), .val (.int p2), .val (.int p3), .val (.int bv), .val (.int wv), .val (.int (0 : Int32)), .val (.int dv), .val (.long mq), .second, .val (.long rq), .second, .val (.long (0 : Int64)), .second, .val (.double r), .second, .val (.double (FP.dadd r r)), .second, .val (.long ((2 : Int64) * (mq + (0 : Int64)))), .second, .val (.double (FP.l2d ((2 : Int64) * (mq + (0 : Int64))))), .second, .val (.double (FP.l2d (((2 : Int64) * (mq + (0 : Int64))) + (1 : Int64)))), .second, .unset, .unset] [(.long ((2 : Int64) * (mq + (0 : Int64))))]))
    refine ownVia (fun _ k => X9.ldc2Long hx hown (mvT hZ (hw _ (List.mem_of_getElem? (i := 5) rfl))) (g := (mkF m 107 #[.val (.int p1), .val (.int p2), .val (.int p3), .val (.int bv), .val (.int wv), .val (.int (0 : Int32)), .val (.int dv), .val (.long mq), .second, .val (.long rq), .second, .val (.long (0 : Int64)), .second, .val (.double r), .second, .val (.double (FP.dadd r r)), .second, .val (.long ((2 : Int64) * (mq + (0 : Int64)))), .second, .val (.double (FP.l2d ((2 : Int64) * (mq + (0 : Int64))))), .second, .val (.double (FP.l2d (((2 : Int64) * (mq + (0 : Int64))) + (1 : Int64)))), .second, .unset, .unset] [(.long ((2 : Int64) * (mq + (0 : Int64))))])) rfl (hb hby at_107) _ k) ?_
    show ownFin _ _ _ _ _ (T9.setTop (mkF m 110 #[.val (.int p1), .val (.int p2), .val (.int p3), .val (.int bv), .val (.int wv), .val (.int (0 : Int32)), .val (.int dv), .val (.long mq), .second, .val (.long rq), .second, .val (.long (0 : Int64)), .second, .val (.double r), .second, .val (.double (FP.dadd r r)), .second, .val (.long ((2 : Int64) * (mq + (0 : Int64)))), .second, .val (.double (FP.l2d ((2 : Int64) * (mq + (0 : Int64))))), .second, .val (.double (FP.l2d (((2 : Int64) * (mq + (0 : Int64))) + (1 : Int64)))), .second, .unset, .unset] [(.long (2 : Int64)), (.long ((2 : Int64) * (mq + (0 : Int64))))]))
    refine ownVia (fun _ k => XS.ladd X9.here hx rfl (hb hby at_110) rfl k) ?_
    show ownFin _ _ _ _ _ (T9.setTop (mkF m 111 #[.val (.int p1), .val (.int p2), .val (.int p3), .val (.int bv), .val (.int wv), .val (.int (0 : Int32)), .val (.int dv), .val (.long mq), .second, .val (.long rq), .second, .val (.long (0 : Int64)), .second, .val (.double r), .second, .val (.double (FP.dadd r r)), .second, .val (.long ((2 : Int64) * (mq + (0 : Int64)))), .second, .val (.double (FP.l2d ((2 : Int64) * (mq + (0 : Int64))))), .second, .val (.double (FP.l2d (((2 : Int64) * (mq + (0 : Int64))) + (1 : Int64)))), .second, .unset, .unset] [(.long (((2 : Int64) * (mq + (0 : Int64))) + (2 : Int64)))]))
    refine ownVia (fun _ k => XS.l2dS X9.here hx rfl (hb hby at_111) rfl rfl k) ?_
    show ownFin _ _ _ _ _ (T9.setTop (mkF m 112 #[.val (.int p1), .val (.int p2), .val (.int p3), .val (.int bv), .val (.int wv), .val (.int (0 : Int32)), .val (.int dv), .val (.long mq), .second, .val (.long rq), .second, .val (.long (0 : Int64)), .second, .val (.double r), .second, .val (.double (FP.dadd r r)), .second, .val (.long ((2 : Int64) * (mq + (0 : Int64)))), .second, .val (.double (FP.l2d ((2 : Int64) * (mq + (0 : Int64))))), .second, .val (.double (FP.l2d (((2 : Int64) * (mq + (0 : Int64))) + (1 : Int64)))), .second, .unset, .unset] [(.double (FP.l2d (((2 : Int64) * (mq + (0 : Int64))) + (2 : Int64))))]))
    refine ownVia (fun _ k => XS.dstore X9.here hx rfl (hb hby at_112) rfl (l' := #[.val (.int p1), .val (.int p2), .val (.int p3), .val (.int bv), .val (.int wv), .val (.int (0 : Int32)), .val (.int dv), .val (.long mq), .second, .val (.long rq), .second, .val (.long (0 : Int64)), .second, .val (.double r), .second, .val (.double (FP.dadd r r)), .second, .val (.long ((2 : Int64) * (mq + (0 : Int64)))), .second, .val (.double (FP.l2d ((2 : Int64) * (mq + (0 : Int64))))), .second, .val (.double (FP.l2d (((2 : Int64) * (mq + (0 : Int64))) + (1 : Int64)))), .second, .val (.double (FP.l2d (((2 : Int64) * (mq + (0 : Int64))) + (2 : Int64)))), .second]) rfl k) ?_
    show ownFin _ _ _ _ _ (T9.setTop (mkF m 114 #[.val (.int p1), .val (.int p2), .val (.int p3), .val (.int bv), .val (.int wv), .val (.int (0 : Int32)), .val (.int dv), .val (.long mq), .second, .val (.long rq), .second, .val (.long (0 : Int64)), .second, .val (.double r), .second, .val (.double (FP.dadd r r)), .second, .val (.long ((2 : Int64) * (mq + (0 : Int64)))), .second, .val (.double (FP.l2d ((2 : Int64) * (mq + (0 : Int64))))), .second, .val (.double (FP.l2d (((2 : Int64) * (mq + (0 : Int64))) + (1 : Int64)))), .second, .val (.double (FP.l2d (((2 : Int64) * (mq + (0 : Int64))) + (2 : Int64)))), .second] []))
    refine ownVia (fun _ k => XS.lload X9.here hx rfl (hb hby at_114) rfl k) ?_
    show ownFin _ _ _ _ _ (T9.setTop (mkF m 116 #[.val (.int p1), .val (.int p2), .val (.int p3), .val (.int bv), .val (.int wv), .val (.int (0 : Int32)), .val (.int dv), .val (.long mq), .second, .val (.long rq), .second, .val (.long (0 : Int64)), .second, .val (.double r), .second, .val (.double (FP.dadd r r)), .second, .val (.long ((2 : Int64) * (mq + (0 : Int64)))), .second, .val (.double (FP.l2d ((2 : Int64) * (mq + (0 : Int64))))), .second, .val (.double (FP.l2d (((2 : Int64) * (mq + (0 : Int64))) + (1 : Int64)))), .second, .val (.double (FP.l2d (((2 : Int64) * (mq + (0 : Int64))) + (2 : Int64)))), .second] [(.long rq)]))
    refine ownVia (fun _ k => XS.lconst X9.here hx rfl (hb hby at_116) k) ?_
    show ownFin _ _ _ _ _ (T9.setTop (mkF m 117 #[.val (.int p1), .val (.int p2), .val (.int p3), .val (.int bv), .val (.int wv), .val (.int (0 : Int32)), .val (.int dv), .val (.long mq), .second, .val (.long rq), .second, .val (.long (0 : Int64)), .second, .val (.double r), .second, .val (.double (FP.dadd r r)), .second, .val (.long ((2 : Int64) * (mq + (0 : Int64)))), .second, .val (.double (FP.l2d ((2 : Int64) * (mq + (0 : Int64))))), .second, .val (.double (FP.l2d (((2 : Int64) * (mq + (0 : Int64))) + (1 : Int64)))), .second, .val (.double (FP.l2d (((2 : Int64) * (mq + (0 : Int64))) + (2 : Int64)))), .second] [(.long (0 : Int64)), (.long rq)]))
    refine ownVia (fun _ k => XS.lcmp X9.here hx rfl (hb hby at_117) rfl k) ?_
    show ownFin _ _ _ _ _ (T9.setTop (mkF m 118 #[.val (.int p1), .val (.int p2), .val (.int p3), .val (.int bv), .val (.int wv), .val (.int (0 : Int32)), .val (.int dv), .val (.long mq), .second, .val (.long rq), .second, .val (.long (0 : Int64)), .second, .val (.double r), .second, .val (.double (FP.dadd r r)), .second, .val (.long ((2 : Int64) * (mq + (0 : Int64)))), .second, .val (.double (FP.l2d ((2 : Int64) * (mq + (0 : Int64))))), .second, .val (.double (FP.l2d (((2 : Int64) * (mq + (0 : Int64))) + (1 : Int64)))), .second, .val (.double (FP.l2d (((2 : Int64) * (mq + (0 : Int64))) + (2 : Int64)))), .second] [(.int (lcmpW rq (0 : Int64)))]))
    have hlo : ((2 : Int64) * (mq + (0 : Int64))).toInt = ((2 * (i / j + 0) : Nat) : Int) := own_low hmq (by decide) (Nat.lt_of_le_of_lt (Nat.div_le_self i j) i1) u1
    generalize h_lo : ((2 : Int64) * (mq + (0 : Int64))) = lo
    show ownFin _ _ _ _ _ (T9.setTop (mkF m 118 #[.val (.int p1), .val (.int p2), .val (.int p3), .val (.int bv), .val (.int wv), .val (.int (0 : Int32)), .val (.int dv), .val (.long mq), .second, .val (.long rq), .second, .val (.long (0 : Int64)), .second, .val (.double r), .second, .val (.double (FP.dadd r r)), .second, .val (.long lo), .second, .val (.double (FP.l2d lo)), .second, .val (.double (FP.l2d (lo + (1 : Int64)))), .second, .val (.double (FP.l2d (lo + (2 : Int64)))), .second] [(.int (lcmpW rq (0 : Int64)))]))
    rw [h_lo] at hlo
    have kd : i / j ≤ i := Nat.div_le_self i j
    have hm1 := own_plus hlo (show (1 : Int64).toInt = ((1 : Nat) : Int) by decide) (by omega) (by decide)
    have hm2 := own_plus hlo (show (2 : Int64).toInt = ((2 : Nat) : Int) by decide) (by omega) (by decide)
    generalize h_l1 : (lo + (1 : Int64)) = l1
    show ownFin _ _ _ _ _ (T9.setTop (mkF m 118 #[.val (.int p1), .val (.int p2), .val (.int p3), .val (.int bv), .val (.int wv), .val (.int (0 : Int32)), .val (.int dv), .val (.long mq), .second, .val (.long rq), .second, .val (.long (0 : Int64)), .second, .val (.double r), .second, .val (.double (FP.dadd r r)), .second, .val (.long lo), .second, .val (.double (FP.l2d lo)), .second, .val (.double (FP.l2d l1)), .second, .val (.double (FP.l2d (lo + (2 : Int64)))), .second] [(.int (lcmpW rq (0 : Int64)))]))
    generalize h_l2 : (lo + (2 : Int64)) = l2
    show ownFin _ _ _ _ _ (T9.setTop (mkF m 118 #[.val (.int p1), .val (.int p2), .val (.int p3), .val (.int bv), .val (.int wv), .val (.int (0 : Int32)), .val (.int dv), .val (.long mq), .second, .val (.long rq), .second, .val (.long (0 : Int64)), .second, .val (.double r), .second, .val (.double (FP.dadd r r)), .second, .val (.long lo), .second, .val (.double (FP.l2d lo)), .second, .val (.double (FP.l2d l1)), .second, .val (.double (FP.l2d l2)), .second] [(.int (lcmpW rq (0 : Int64)))]))
    rw [h_l1] at hm1
    rw [h_l2] at hm2
    have hi6 : bv.toInt64.toInt = (i : Int) := by rw [Int32.toInt_toInt64]; exact hi
    have hj6 : (dv.toInt64).toInt = (j : Int) := by rw [Int32.toInt_toInt64]; exact hj
    have h2r := own_twice hrq (Nat.lt_of_le_of_lt (Nat.mod_le i j) i1)
    by_cases hc10 : rq = (0 : Int64)
    case pos =>
      have hc10I : ((i % j : Nat) : Int) = 0 := (own_eql hrq (by decide)).mp hc10
      refine ownVia (fun _ k => XS.ifNo X9.here hx rfl (hb hby at_118) rfl ((if0 _ _).trans (teq ((lw_eq _ _).mpr hc10)).2) k) ?_
      show ownFin _ _ _ _ _ (T9.setTop (mkF m 121 #[.val (.int p1), .val (.int p2), .val (.int p3), .val (.int bv), .val (.int wv), .val (.int (0 : Int32)), .val (.int dv), .val (.long mq), .second, .val (.long rq), .second, .val (.long (0 : Int64)), .second, .val (.double r), .second, .val (.double (FP.dadd r r)), .second, .val (.long lo), .second, .val (.double (FP.l2d lo)), .second, .val (.double (FP.l2d l1)), .second, .val (.double (FP.l2d l2)), .second] []))
      refine ownVia (fun _ k => XS.dload X9.here hx rfl (hb hby at_121) rfl k) ?_
      show ownFin _ _ _ _ _ (T9.setTop (mkF m 123 #[.val (.int p1), .val (.int p2), .val (.int p3), .val (.int bv), .val (.int wv), .val (.int (0 : Int32)), .val (.int dv), .val (.long mq), .second, .val (.long rq), .second, .val (.long (0 : Int64)), .second, .val (.double r), .second, .val (.double (FP.dadd r r)), .second, .val (.long lo), .second, .val (.double (FP.l2d lo)), .second, .val (.double (FP.l2d l1)), .second, .val (.double (FP.l2d l2)), .second] [(.double (FP.dadd r r))]))
      refine ownVia (fun _ k => XS.dload X9.here hx rfl (hb hby at_123) rfl k) ?_
      show ownFin _ _ _ _ _ (T9.setTop (mkF m 125 #[.val (.int p1), .val (.int p2), .val (.int p3), .val (.int bv), .val (.int wv), .val (.int (0 : Int32)), .val (.int dv), .val (.long mq), .second, .val (.long rq), .second, .val (.long (0 : Int64)), .second, .val (.double r), .second, .val (.double (FP.dadd r r)), .second, .val (.long lo), .second, .val (.double (FP.l2d lo)), .second, .val (.double (FP.l2d l1)), .second, .val (.double (FP.l2d l2)), .second] [(.double (FP.l2d lo)), (.double (FP.dadd r r))]))
      refine ownVia (fun _ k => XS.dcmpS X9.here hx rfl (hb hby at_125) rfl rfl k) ?_
      show ownFin _ _ _ _ _ (T9.setTop (mkF m 126 #[.val (.int p1), .val (.int p2), .val (.int p3), .val (.int bv), .val (.int wv), .val (.int (0 : Int32)), .val (.int dv), .val (.long mq), .second, .val (.long rq), .second, .val (.long (0 : Int64)), .second, .val (.double r), .second, .val (.double (FP.dadd r r)), .second, .val (.long lo), .second, .val (.double (FP.l2d lo)), .second, .val (.double (FP.l2d l1)), .second, .val (.double (FP.l2d l2)), .second] [(.int (cmpValue (FP.dcmp (FP.dadd r r) (FP.l2d lo)) .l))]))
      refine ownVia (fun _ k => XS.ifNo X9.here hx rfl (hb hby at_126) rfl ((if0 _ _).trans (teq (own_cv0 (own_c0 hi6 hj6 hu i1 j1 j2 u1 er (by omega) hlo))).2) k) ?_
      show ownFin _ _ _ _ _ (T9.setTop (mkF m 129 #[.val (.int p1), .val (.int p2), .val (.int p3), .val (.int bv), .val (.int wv), .val (.int (0 : Int32)), .val (.int dv), .val (.long mq), .second, .val (.long rq), .second, .val (.long (0 : Int64)), .second, .val (.double r), .second, .val (.double (FP.dadd r r)), .second, .val (.long lo), .second, .val (.double (FP.l2d lo)), .second, .val (.double (FP.l2d l1)), .second, .val (.double (FP.l2d l2)), .second] []))
      refine ownVia (fun _ k => XS.iconst X9.here hx rfl (hb hby at_129) k) ?_
      show ownFin _ _ _ _ _ (T9.setTop (mkF m 130 #[.val (.int p1), .val (.int p2), .val (.int p3), .val (.int bv), .val (.int wv), .val (.int (0 : Int32)), .val (.int dv), .val (.long mq), .second, .val (.long rq), .second, .val (.long (0 : Int64)), .second, .val (.double r), .second, .val (.double (FP.dadd r r)), .second, .val (.long lo), .second, .val (.double (FP.l2d lo)), .second, .val (.double (FP.l2d l1)), .second, .val (.double (FP.l2d l2)), .second] [(.int (1 : Int32))]))
      refine ownVia (fun _ k => XS.goto X9.here hx rfl (pc0 := 130) (pc' := 134) rfl (hb hby at_130) (by decide) (by decide) k) ?_
      show ownFin _ _ _ _ _ (T9.setTop (mkF m 134 #[.val (.int p1), .val (.int p2), .val (.int p3), .val (.int bv), .val (.int wv), .val (.int (0 : Int32)), .val (.int dv), .val (.long mq), .second, .val (.long rq), .second, .val (.long (0 : Int64)), .second, .val (.double r), .second, .val (.double (FP.dadd r r)), .second, .val (.long lo), .second, .val (.double (FP.l2d lo)), .second, .val (.double (FP.l2d l1)), .second, .val (.double (FP.l2d l2)), .second] [(.int (1 : Int32))]))
      refine ownRetZ X9 hx hlk hret (hb hby at_134) (by decide) (by decide) (Or.inr rfl) ?_
      show (Q_own_law Z p1 p2 p3 h0 n0 ) (some (.int (1 : Int32))) T9.heap _
      rw [e9]
      exact ⟨rfl, N9⟩
    case neg =>
      have hc10I : ¬ ((i % j : Nat) : Int) = 0 := fun q => hc10 ((own_eql hrq (by decide)).mpr q)
      refine ownVia (fun _ k => XS.ifYes X9.here hx rfl (pc0 := 118) (pc' := 135) rfl (hb hby at_118) rfl ((if0 _ _).trans (feq (fun q => hc10 ((lw_eq _ _).mp q))).2) (by decide) (by decide) k) ?_
      show ownFin _ _ _ _ _ (T9.setTop (mkF m 135 #[.val (.int p1), .val (.int p2), .val (.int p3), .val (.int bv), .val (.int wv), .val (.int (0 : Int32)), .val (.int dv), .val (.long mq), .second, .val (.long rq), .second, .val (.long (0 : Int64)), .second, .val (.double r), .second, .val (.double (FP.dadd r r)), .second, .val (.long lo), .second, .val (.double (FP.l2d lo)), .second, .val (.double (FP.l2d l1)), .second, .val (.double (FP.l2d l2)), .second] []))
      refine ownVia (fun _ k => X9.ldc2Long hx hown (mvT hZ (hw _ (List.mem_of_getElem? (i := 5) rfl))) (g := (mkF m 135 #[.val (.int p1), .val (.int p2), .val (.int p3), .val (.int bv), .val (.int wv), .val (.int (0 : Int32)), .val (.int dv), .val (.long mq), .second, .val (.long rq), .second, .val (.long (0 : Int64)), .second, .val (.double r), .second, .val (.double (FP.dadd r r)), .second, .val (.long lo), .second, .val (.double (FP.l2d lo)), .second, .val (.double (FP.l2d l1)), .second, .val (.double (FP.l2d l2)), .second] [])) rfl (hb hby at_135) _ k) ?_
      show ownFin _ _ _ _ _ (T9.setTop (mkF m 138 #[.val (.int p1), .val (.int p2), .val (.int p3), .val (.int bv), .val (.int wv), .val (.int (0 : Int32)), .val (.int dv), .val (.long mq), .second, .val (.long rq), .second, .val (.long (0 : Int64)), .second, .val (.double r), .second, .val (.double (FP.dadd r r)), .second, .val (.long lo), .second, .val (.double (FP.l2d lo)), .second, .val (.double (FP.l2d l1)), .second, .val (.double (FP.l2d l2)), .second] [(.long (2 : Int64))]))
      refine ownVia (fun _ k => XS.lload X9.here hx rfl (hb hby at_138) rfl k) ?_
      show ownFin _ _ _ _ _ (T9.setTop (mkF m 140 #[.val (.int p1), .val (.int p2), .val (.int p3), .val (.int bv), .val (.int wv), .val (.int (0 : Int32)), .val (.int dv), .val (.long mq), .second, .val (.long rq), .second, .val (.long (0 : Int64)), .second, .val (.double r), .second, .val (.double (FP.dadd r r)), .second, .val (.long lo), .second, .val (.double (FP.l2d lo)), .second, .val (.double (FP.l2d l1)), .second, .val (.double (FP.l2d l2)), .second] [(.long rq), (.long (2 : Int64))]))
      refine ownVia (fun _ k => XS.lmul X9.here hx rfl (hb hby at_140) rfl k) ?_
      show ownFin _ _ _ _ _ (T9.setTop (mkF m 141 #[.val (.int p1), .val (.int p2), .val (.int p3), .val (.int bv), .val (.int wv), .val (.int (0 : Int32)), .val (.int dv), .val (.long mq), .second, .val (.long rq), .second, .val (.long (0 : Int64)), .second, .val (.double r), .second, .val (.double (FP.dadd r r)), .second, .val (.long lo), .second, .val (.double (FP.l2d lo)), .second, .val (.double (FP.l2d l1)), .second, .val (.double (FP.l2d l2)), .second] [(.long ((2 : Int64) * rq))]))
      refine ownVia (fun _ k => XS.iload X9.here hx rfl (hb hby at_141) rfl k) ?_
      show ownFin _ _ _ _ _ (T9.setTop (mkF m 143 #[.val (.int p1), .val (.int p2), .val (.int p3), .val (.int bv), .val (.int wv), .val (.int (0 : Int32)), .val (.int dv), .val (.long mq), .second, .val (.long rq), .second, .val (.long (0 : Int64)), .second, .val (.double r), .second, .val (.double (FP.dadd r r)), .second, .val (.long lo), .second, .val (.double (FP.l2d lo)), .second, .val (.double (FP.l2d l1)), .second, .val (.double (FP.l2d l2)), .second] [(.int dv), (.long ((2 : Int64) * rq))]))
      refine ownVia (fun _ k => XS.i2l X9.here hx rfl (hb hby at_143) rfl k) ?_
      show ownFin _ _ _ _ _ (T9.setTop (mkF m 144 #[.val (.int p1), .val (.int p2), .val (.int p3), .val (.int bv), .val (.int wv), .val (.int (0 : Int32)), .val (.int dv), .val (.long mq), .second, .val (.long rq), .second, .val (.long (0 : Int64)), .second, .val (.double r), .second, .val (.double (FP.dadd r r)), .second, .val (.long lo), .second, .val (.double (FP.l2d lo)), .second, .val (.double (FP.l2d l1)), .second, .val (.double (FP.l2d l2)), .second] [(.long (dv.toInt64)), (.long ((2 : Int64) * rq))]))
      refine ownVia (fun _ k => XS.lcmp X9.here hx rfl (hb hby at_144) rfl k) ?_
      show ownFin _ _ _ _ _ (T9.setTop (mkF m 145 #[.val (.int p1), .val (.int p2), .val (.int p3), .val (.int bv), .val (.int wv), .val (.int (0 : Int32)), .val (.int dv), .val (.long mq), .second, .val (.long rq), .second, .val (.long (0 : Int64)), .second, .val (.double r), .second, .val (.double (FP.dadd r r)), .second, .val (.long lo), .second, .val (.double (FP.l2d lo)), .second, .val (.double (FP.l2d l1)), .second, .val (.double (FP.l2d l2)), .second] [(.int (lcmpW ((2 : Int64) * rq) (dv.toInt64)))]))
      by_cases hc11 : ((2 : Int64) * rq) < (dv.toInt64)
      case pos =>
        have hc11I : ((2 * (i % j) : Nat) : Int) < (j : Int) := (own_ltl h2r hj6).mp hc11
        refine ownVia (fun _ k => XS.ifNo X9.here hx rfl (hb hby at_145) rfl ((if0 _ _).trans (tlt ((lw_lt _ _).mpr hc11)).2.1) k) ?_
        show ownFin _ _ _ _ _ (T9.setTop (mkF m 148 #[.val (.int p1), .val (.int p2), .val (.int p3), .val (.int bv), .val (.int wv), .val (.int (0 : Int32)), .val (.int dv), .val (.long mq), .second, .val (.long rq), .second, .val (.long (0 : Int64)), .second, .val (.double r), .second, .val (.double (FP.dadd r r)), .second, .val (.long lo), .second, .val (.double (FP.l2d lo)), .second, .val (.double (FP.l2d l1)), .second, .val (.double (FP.l2d l2)), .second] []))
        have hq := own_clo hi6 hj6 hu i1 j1 j2 u1 er (by omega) (by omega) hlo hm1
        refine ownVia (fun _ k => XS.dload X9.here hx rfl (hb hby at_148) rfl k) ?_
        show ownFin _ _ _ _ _ (T9.setTop (mkF m 150 #[.val (.int p1), .val (.int p2), .val (.int p3), .val (.int bv), .val (.int wv), .val (.int (0 : Int32)), .val (.int dv), .val (.long mq), .second, .val (.long rq), .second, .val (.long (0 : Int64)), .second, .val (.double r), .second, .val (.double (FP.dadd r r)), .second, .val (.long lo), .second, .val (.double (FP.l2d lo)), .second, .val (.double (FP.l2d l1)), .second, .val (.double (FP.l2d l2)), .second] [(.double (FP.l2d lo))]))
        refine ownVia (fun _ k => XS.dload X9.here hx rfl (hb hby at_150) rfl k) ?_
        show ownFin _ _ _ _ _ (T9.setTop (mkF m 152 #[.val (.int p1), .val (.int p2), .val (.int p3), .val (.int bv), .val (.int wv), .val (.int (0 : Int32)), .val (.int dv), .val (.long mq), .second, .val (.long rq), .second, .val (.long (0 : Int64)), .second, .val (.double r), .second, .val (.double (FP.dadd r r)), .second, .val (.long lo), .second, .val (.double (FP.l2d lo)), .second, .val (.double (FP.l2d l1)), .second, .val (.double (FP.l2d l2)), .second] [(.double (FP.dadd r r)), (.double (FP.l2d lo))]))
        refine ownVia (fun _ k => XS.dcmpS X9.here hx rfl (hb hby at_152) rfl rfl k) ?_
        show ownFin _ _ _ _ _ (T9.setTop (mkF m 153 #[.val (.int p1), .val (.int p2), .val (.int p3), .val (.int bv), .val (.int wv), .val (.int (0 : Int32)), .val (.int dv), .val (.long mq), .second, .val (.long rq), .second, .val (.long (0 : Int64)), .second, .val (.double r), .second, .val (.double (FP.dadd r r)), .second, .val (.long lo), .second, .val (.double (FP.l2d lo)), .second, .val (.double (FP.l2d l1)), .second, .val (.double (FP.l2d l2)), .second] [(.int (cmpValue (FP.dcmp (FP.l2d lo) (FP.dadd r r)) .g))]))
        refine ownVia (fun _ k => XS.ifNo X9.here hx rfl (hb hby at_153) rfl ((if0 _ _).trans (tlt (own_cv1 hq.1)).2.1) k) ?_
        show ownFin _ _ _ _ _ (T9.setTop (mkF m 156 #[.val (.int p1), .val (.int p2), .val (.int p3), .val (.int bv), .val (.int wv), .val (.int (0 : Int32)), .val (.int dv), .val (.long mq), .second, .val (.long rq), .second, .val (.long (0 : Int64)), .second, .val (.double r), .second, .val (.double (FP.dadd r r)), .second, .val (.long lo), .second, .val (.double (FP.l2d lo)), .second, .val (.double (FP.l2d l1)), .second, .val (.double (FP.l2d l2)), .second] []))
        refine ownVia (fun _ k => XS.dload X9.here hx rfl (hb hby at_156) rfl k) ?_
        show ownFin _ _ _ _ _ (T9.setTop (mkF m 158 #[.val (.int p1), .val (.int p2), .val (.int p3), .val (.int bv), .val (.int wv), .val (.int (0 : Int32)), .val (.int dv), .val (.long mq), .second, .val (.long rq), .second, .val (.long (0 : Int64)), .second, .val (.double r), .second, .val (.double (FP.dadd r r)), .second, .val (.long lo), .second, .val (.double (FP.l2d lo)), .second, .val (.double (FP.l2d l1)), .second, .val (.double (FP.l2d l2)), .second] [(.double (FP.dadd r r))]))
        refine ownVia (fun _ k => XS.dload X9.here hx rfl (hb hby at_158) rfl k) ?_
        show ownFin _ _ _ _ _ (T9.setTop (mkF m 160 #[.val (.int p1), .val (.int p2), .val (.int p3), .val (.int bv), .val (.int wv), .val (.int (0 : Int32)), .val (.int dv), .val (.long mq), .second, .val (.long rq), .second, .val (.long (0 : Int64)), .second, .val (.double r), .second, .val (.double (FP.dadd r r)), .second, .val (.long lo), .second, .val (.double (FP.l2d lo)), .second, .val (.double (FP.l2d l1)), .second, .val (.double (FP.l2d l2)), .second] [(.double (FP.l2d l1)), (.double (FP.dadd r r))]))
        refine ownVia (fun _ k => XS.dcmpS X9.here hx rfl (hb hby at_160) rfl rfl k) ?_
        show ownFin _ _ _ _ _ (T9.setTop (mkF m 161 #[.val (.int p1), .val (.int p2), .val (.int p3), .val (.int bv), .val (.int wv), .val (.int (0 : Int32)), .val (.int dv), .val (.long mq), .second, .val (.long rq), .second, .val (.long (0 : Int64)), .second, .val (.double r), .second, .val (.double (FP.dadd r r)), .second, .val (.long lo), .second, .val (.double (FP.l2d lo)), .second, .val (.double (FP.l2d l1)), .second, .val (.double (FP.l2d l2)), .second] [(.int (cmpValue (FP.dcmp (FP.dadd r r) (FP.l2d l1)) .g))]))
        refine ownVia (fun _ k => XS.ifNo X9.here hx rfl (hb hby at_161) rfl ((if0 _ _).trans (tlt (own_cv1 hq.2)).2.1) k) ?_
        show ownFin _ _ _ _ _ (T9.setTop (mkF m 164 #[.val (.int p1), .val (.int p2), .val (.int p3), .val (.int bv), .val (.int wv), .val (.int (0 : Int32)), .val (.int dv), .val (.long mq), .second, .val (.long rq), .second, .val (.long (0 : Int64)), .second, .val (.double r), .second, .val (.double (FP.dadd r r)), .second, .val (.long lo), .second, .val (.double (FP.l2d lo)), .second, .val (.double (FP.l2d l1)), .second, .val (.double (FP.l2d l2)), .second] []))
        refine ownVia (fun _ k => XS.iconst X9.here hx rfl (hb hby at_164) k) ?_
        show ownFin _ _ _ _ _ (T9.setTop (mkF m 165 #[.val (.int p1), .val (.int p2), .val (.int p3), .val (.int bv), .val (.int wv), .val (.int (0 : Int32)), .val (.int dv), .val (.long mq), .second, .val (.long rq), .second, .val (.long (0 : Int64)), .second, .val (.double r), .second, .val (.double (FP.dadd r r)), .second, .val (.long lo), .second, .val (.double (FP.l2d lo)), .second, .val (.double (FP.l2d l1)), .second, .val (.double (FP.l2d l2)), .second] [(.int (1 : Int32))]))
        refine ownVia (fun _ k => XS.goto X9.here hx rfl (pc0 := 165) (pc' := 169) rfl (hb hby at_165) (by decide) (by decide) k) ?_
        show ownFin _ _ _ _ _ (T9.setTop (mkF m 169 #[.val (.int p1), .val (.int p2), .val (.int p3), .val (.int bv), .val (.int wv), .val (.int (0 : Int32)), .val (.int dv), .val (.long mq), .second, .val (.long rq), .second, .val (.long (0 : Int64)), .second, .val (.double r), .second, .val (.double (FP.dadd r r)), .second, .val (.long lo), .second, .val (.double (FP.l2d lo)), .second, .val (.double (FP.l2d l1)), .second, .val (.double (FP.l2d l2)), .second] [(.int (1 : Int32))]))
        refine ownRetZ X9 hx hlk hret (hb hby at_169) (by decide) (by decide) (Or.inr rfl) ?_
        show (Q_own_law Z p1 p2 p3 h0 n0 ) (some (.int (1 : Int32))) T9.heap _
        rw [e9]
        exact ⟨rfl, N9⟩
      case neg =>
        have hc11I : ¬ ((2 * (i % j) : Nat) : Int) < (j : Int) := fun q => hc11 ((own_ltl h2r hj6).mpr q)
        refine ownVia (fun _ k => XS.ifYes X9.here hx rfl (pc0 := 145) (pc' := 170) rfl (hb hby at_145) rfl ((if0 _ _).trans (flt (fun q => hc11 ((lw_lt _ _).mp q))).2.1) (by decide) (by decide) k) ?_
        show ownFin _ _ _ _ _ (T9.setTop (mkF m 170 #[.val (.int p1), .val (.int p2), .val (.int p3), .val (.int bv), .val (.int wv), .val (.int (0 : Int32)), .val (.int dv), .val (.long mq), .second, .val (.long rq), .second, .val (.long (0 : Int64)), .second, .val (.double r), .second, .val (.double (FP.dadd r r)), .second, .val (.long lo), .second, .val (.double (FP.l2d lo)), .second, .val (.double (FP.l2d l1)), .second, .val (.double (FP.l2d l2)), .second] []))
        refine ownVia (fun _ k => X9.ldc2Long hx hown (mvT hZ (hw _ (List.mem_of_getElem? (i := 5) rfl))) (g := (mkF m 170 #[.val (.int p1), .val (.int p2), .val (.int p3), .val (.int bv), .val (.int wv), .val (.int (0 : Int32)), .val (.int dv), .val (.long mq), .second, .val (.long rq), .second, .val (.long (0 : Int64)), .second, .val (.double r), .second, .val (.double (FP.dadd r r)), .second, .val (.long lo), .second, .val (.double (FP.l2d lo)), .second, .val (.double (FP.l2d l1)), .second, .val (.double (FP.l2d l2)), .second] [])) rfl (hb hby at_170) _ k) ?_
        show ownFin _ _ _ _ _ (T9.setTop (mkF m 173 #[.val (.int p1), .val (.int p2), .val (.int p3), .val (.int bv), .val (.int wv), .val (.int (0 : Int32)), .val (.int dv), .val (.long mq), .second, .val (.long rq), .second, .val (.long (0 : Int64)), .second, .val (.double r), .second, .val (.double (FP.dadd r r)), .second, .val (.long lo), .second, .val (.double (FP.l2d lo)), .second, .val (.double (FP.l2d l1)), .second, .val (.double (FP.l2d l2)), .second] [(.long (2 : Int64))]))
        refine ownVia (fun _ k => XS.lload X9.here hx rfl (hb hby at_173) rfl k) ?_
        show ownFin _ _ _ _ _ (T9.setTop (mkF m 175 #[.val (.int p1), .val (.int p2), .val (.int p3), .val (.int bv), .val (.int wv), .val (.int (0 : Int32)), .val (.int dv), .val (.long mq), .second, .val (.long rq), .second, .val (.long (0 : Int64)), .second, .val (.double r), .second, .val (.double (FP.dadd r r)), .second, .val (.long lo), .second, .val (.double (FP.l2d lo)), .second, .val (.double (FP.l2d l1)), .second, .val (.double (FP.l2d l2)), .second] [(.long rq), (.long (2 : Int64))]))
        refine ownVia (fun _ k => XS.lmul X9.here hx rfl (hb hby at_175) rfl k) ?_
        show ownFin _ _ _ _ _ (T9.setTop (mkF m 176 #[.val (.int p1), .val (.int p2), .val (.int p3), .val (.int bv), .val (.int wv), .val (.int (0 : Int32)), .val (.int dv), .val (.long mq), .second, .val (.long rq), .second, .val (.long (0 : Int64)), .second, .val (.double r), .second, .val (.double (FP.dadd r r)), .second, .val (.long lo), .second, .val (.double (FP.l2d lo)), .second, .val (.double (FP.l2d l1)), .second, .val (.double (FP.l2d l2)), .second] [(.long ((2 : Int64) * rq))]))
        refine ownVia (fun _ k => XS.iload X9.here hx rfl (hb hby at_176) rfl k) ?_
        show ownFin _ _ _ _ _ (T9.setTop (mkF m 178 #[.val (.int p1), .val (.int p2), .val (.int p3), .val (.int bv), .val (.int wv), .val (.int (0 : Int32)), .val (.int dv), .val (.long mq), .second, .val (.long rq), .second, .val (.long (0 : Int64)), .second, .val (.double r), .second, .val (.double (FP.dadd r r)), .second, .val (.long lo), .second, .val (.double (FP.l2d lo)), .second, .val (.double (FP.l2d l1)), .second, .val (.double (FP.l2d l2)), .second] [(.int dv), (.long ((2 : Int64) * rq))]))
        refine ownVia (fun _ k => XS.i2l X9.here hx rfl (hb hby at_178) rfl k) ?_
        show ownFin _ _ _ _ _ (T9.setTop (mkF m 179 #[.val (.int p1), .val (.int p2), .val (.int p3), .val (.int bv), .val (.int wv), .val (.int (0 : Int32)), .val (.int dv), .val (.long mq), .second, .val (.long rq), .second, .val (.long (0 : Int64)), .second, .val (.double r), .second, .val (.double (FP.dadd r r)), .second, .val (.long lo), .second, .val (.double (FP.l2d lo)), .second, .val (.double (FP.l2d l1)), .second, .val (.double (FP.l2d l2)), .second] [(.long (dv.toInt64)), (.long ((2 : Int64) * rq))]))
        refine ownVia (fun _ k => XS.lcmp X9.here hx rfl (hb hby at_179) rfl k) ?_
        show ownFin _ _ _ _ _ (T9.setTop (mkF m 180 #[.val (.int p1), .val (.int p2), .val (.int p3), .val (.int bv), .val (.int wv), .val (.int (0 : Int32)), .val (.int dv), .val (.long mq), .second, .val (.long rq), .second, .val (.long (0 : Int64)), .second, .val (.double r), .second, .val (.double (FP.dadd r r)), .second, .val (.long lo), .second, .val (.double (FP.l2d lo)), .second, .val (.double (FP.l2d l1)), .second, .val (.double (FP.l2d l2)), .second] [(.int (lcmpW ((2 : Int64) * rq) (dv.toInt64)))]))
        by_cases hc12 : ((2 : Int64) * rq) = (dv.toInt64)
        case pos =>
          have hc12I : ((2 * (i % j) : Nat) : Int) = (j : Int) := (own_eql h2r hj6).mp hc12
          refine ownVia (fun _ k => XS.ifNo X9.here hx rfl (hb hby at_180) rfl ((if0 _ _).trans (teq ((lw_eq _ _).mpr hc12)).2) k) ?_
          show ownFin _ _ _ _ _ (T9.setTop (mkF m 183 #[.val (.int p1), .val (.int p2), .val (.int p3), .val (.int bv), .val (.int wv), .val (.int (0 : Int32)), .val (.int dv), .val (.long mq), .second, .val (.long rq), .second, .val (.long (0 : Int64)), .second, .val (.double r), .second, .val (.double (FP.dadd r r)), .second, .val (.long lo), .second, .val (.double (FP.l2d lo)), .second, .val (.double (FP.l2d l1)), .second, .val (.double (FP.l2d l2)), .second] []))
          refine ownVia (fun _ k => XS.dload X9.here hx rfl (hb hby at_183) rfl k) ?_
          show ownFin _ _ _ _ _ (T9.setTop (mkF m 185 #[.val (.int p1), .val (.int p2), .val (.int p3), .val (.int bv), .val (.int wv), .val (.int (0 : Int32)), .val (.int dv), .val (.long mq), .second, .val (.long rq), .second, .val (.long (0 : Int64)), .second, .val (.double r), .second, .val (.double (FP.dadd r r)), .second, .val (.long lo), .second, .val (.double (FP.l2d lo)), .second, .val (.double (FP.l2d l1)), .second, .val (.double (FP.l2d l2)), .second] [(.double (FP.dadd r r))]))
          refine ownVia (fun _ k => XS.dload X9.here hx rfl (hb hby at_185) rfl k) ?_
          show ownFin _ _ _ _ _ (T9.setTop (mkF m 187 #[.val (.int p1), .val (.int p2), .val (.int p3), .val (.int bv), .val (.int wv), .val (.int (0 : Int32)), .val (.int dv), .val (.long mq), .second, .val (.long rq), .second, .val (.long (0 : Int64)), .second, .val (.double r), .second, .val (.double (FP.dadd r r)), .second, .val (.long lo), .second, .val (.double (FP.l2d lo)), .second, .val (.double (FP.l2d l1)), .second, .val (.double (FP.l2d l2)), .second] [(.double (FP.l2d l1)), (.double (FP.dadd r r))]))
          refine ownVia (fun _ k => XS.dcmpS X9.here hx rfl (hb hby at_187) rfl rfl k) ?_
          show ownFin _ _ _ _ _ (T9.setTop (mkF m 188 #[.val (.int p1), .val (.int p2), .val (.int p3), .val (.int bv), .val (.int wv), .val (.int (0 : Int32)), .val (.int dv), .val (.long mq), .second, .val (.long rq), .second, .val (.long (0 : Int64)), .second, .val (.double r), .second, .val (.double (FP.dadd r r)), .second, .val (.long lo), .second, .val (.double (FP.l2d lo)), .second, .val (.double (FP.l2d l1)), .second, .val (.double (FP.l2d l2)), .second] [(.int (cmpValue (FP.dcmp (FP.dadd r r) (FP.l2d l1)) .l))]))
          refine ownVia (fun _ k => XS.ifNo X9.here hx rfl (hb hby at_188) rfl ((if0 _ _).trans (teq (own_cv0 (own_c1 hi6 hj6 hu i1 j1 j2 u1 er (by omega) hm1))).2) k) ?_
          show ownFin _ _ _ _ _ (T9.setTop (mkF m 191 #[.val (.int p1), .val (.int p2), .val (.int p3), .val (.int bv), .val (.int wv), .val (.int (0 : Int32)), .val (.int dv), .val (.long mq), .second, .val (.long rq), .second, .val (.long (0 : Int64)), .second, .val (.double r), .second, .val (.double (FP.dadd r r)), .second, .val (.long lo), .second, .val (.double (FP.l2d lo)), .second, .val (.double (FP.l2d l1)), .second, .val (.double (FP.l2d l2)), .second] []))
          refine ownVia (fun _ k => XS.iconst X9.here hx rfl (hb hby at_191) k) ?_
          show ownFin _ _ _ _ _ (T9.setTop (mkF m 192 #[.val (.int p1), .val (.int p2), .val (.int p3), .val (.int bv), .val (.int wv), .val (.int (0 : Int32)), .val (.int dv), .val (.long mq), .second, .val (.long rq), .second, .val (.long (0 : Int64)), .second, .val (.double r), .second, .val (.double (FP.dadd r r)), .second, .val (.long lo), .second, .val (.double (FP.l2d lo)), .second, .val (.double (FP.l2d l1)), .second, .val (.double (FP.l2d l2)), .second] [(.int (1 : Int32))]))
          refine ownVia (fun _ k => XS.goto X9.here hx rfl (pc0 := 192) (pc' := 196) rfl (hb hby at_192) (by decide) (by decide) k) ?_
          show ownFin _ _ _ _ _ (T9.setTop (mkF m 196 #[.val (.int p1), .val (.int p2), .val (.int p3), .val (.int bv), .val (.int wv), .val (.int (0 : Int32)), .val (.int dv), .val (.long mq), .second, .val (.long rq), .second, .val (.long (0 : Int64)), .second, .val (.double r), .second, .val (.double (FP.dadd r r)), .second, .val (.long lo), .second, .val (.double (FP.l2d lo)), .second, .val (.double (FP.l2d l1)), .second, .val (.double (FP.l2d l2)), .second] [(.int (1 : Int32))]))
          refine ownRetZ X9 hx hlk hret (hb hby at_196) (by decide) (by decide) (Or.inr rfl) ?_
          show (Q_own_law Z p1 p2 p3 h0 n0 ) (some (.int (1 : Int32))) T9.heap _
          rw [e9]
          exact ⟨rfl, N9⟩
        case neg =>
          have hc12I : ¬ ((2 * (i % j) : Nat) : Int) = (j : Int) := fun q => hc12 ((own_eql h2r hj6).mpr q)
          refine ownVia (fun _ k => XS.ifYes X9.here hx rfl (pc0 := 180) (pc' := 197) rfl (hb hby at_180) rfl ((if0 _ _).trans (feq (fun q => hc12 ((lw_eq _ _).mp q))).2) (by decide) (by decide) k) ?_
          show ownFin _ _ _ _ _ (T9.setTop (mkF m 197 #[.val (.int p1), .val (.int p2), .val (.int p3), .val (.int bv), .val (.int wv), .val (.int (0 : Int32)), .val (.int dv), .val (.long mq), .second, .val (.long rq), .second, .val (.long (0 : Int64)), .second, .val (.double r), .second, .val (.double (FP.dadd r r)), .second, .val (.long lo), .second, .val (.double (FP.l2d lo)), .second, .val (.double (FP.l2d l1)), .second, .val (.double (FP.l2d l2)), .second] []))
          have hq := own_chi hi6 hj6 hu i1 j1 j2 u1 er (by omega) hm1 hm2
          refine ownVia (fun _ k => XS.dload X9.here hx rfl (hb hby at_197) rfl k) ?_
          show ownFin _ _ _ _ _ (T9.setTop (mkF m 199 #[.val (.int p1), .val (.int p2), .val (.int p3), .val (.int bv), .val (.int wv), .val (.int (0 : Int32)), .val (.int dv), .val (.long mq), .second, .val (.long rq), .second, .val (.long (0 : Int64)), .second, .val (.double r), .second, .val (.double (FP.dadd r r)), .second, .val (.long lo), .second, .val (.double (FP.l2d lo)), .second, .val (.double (FP.l2d l1)), .second, .val (.double (FP.l2d l2)), .second] [(.double (FP.l2d l1))]))
          refine ownVia (fun _ k => XS.dload X9.here hx rfl (hb hby at_199) rfl k) ?_
          show ownFin _ _ _ _ _ (T9.setTop (mkF m 201 #[.val (.int p1), .val (.int p2), .val (.int p3), .val (.int bv), .val (.int wv), .val (.int (0 : Int32)), .val (.int dv), .val (.long mq), .second, .val (.long rq), .second, .val (.long (0 : Int64)), .second, .val (.double r), .second, .val (.double (FP.dadd r r)), .second, .val (.long lo), .second, .val (.double (FP.l2d lo)), .second, .val (.double (FP.l2d l1)), .second, .val (.double (FP.l2d l2)), .second] [(.double (FP.dadd r r)), (.double (FP.l2d l1))]))
          refine ownVia (fun _ k => XS.dcmpS X9.here hx rfl (hb hby at_201) rfl rfl k) ?_
          show ownFin _ _ _ _ _ (T9.setTop (mkF m 202 #[.val (.int p1), .val (.int p2), .val (.int p3), .val (.int bv), .val (.int wv), .val (.int (0 : Int32)), .val (.int dv), .val (.long mq), .second, .val (.long rq), .second, .val (.long (0 : Int64)), .second, .val (.double r), .second, .val (.double (FP.dadd r r)), .second, .val (.long lo), .second, .val (.double (FP.l2d lo)), .second, .val (.double (FP.l2d l1)), .second, .val (.double (FP.l2d l2)), .second] [(.int (cmpValue (FP.dcmp (FP.l2d l1) (FP.dadd r r)) .g))]))
          refine ownVia (fun _ k => XS.ifNo X9.here hx rfl (hb hby at_202) rfl ((if0 _ _).trans (tlt (own_cv1 hq.1)).2.1) k) ?_
          show ownFin _ _ _ _ _ (T9.setTop (mkF m 205 #[.val (.int p1), .val (.int p2), .val (.int p3), .val (.int bv), .val (.int wv), .val (.int (0 : Int32)), .val (.int dv), .val (.long mq), .second, .val (.long rq), .second, .val (.long (0 : Int64)), .second, .val (.double r), .second, .val (.double (FP.dadd r r)), .second, .val (.long lo), .second, .val (.double (FP.l2d lo)), .second, .val (.double (FP.l2d l1)), .second, .val (.double (FP.l2d l2)), .second] []))
          refine ownVia (fun _ k => XS.dload X9.here hx rfl (hb hby at_205) rfl k) ?_
          show ownFin _ _ _ _ _ (T9.setTop (mkF m 207 #[.val (.int p1), .val (.int p2), .val (.int p3), .val (.int bv), .val (.int wv), .val (.int (0 : Int32)), .val (.int dv), .val (.long mq), .second, .val (.long rq), .second, .val (.long (0 : Int64)), .second, .val (.double r), .second, .val (.double (FP.dadd r r)), .second, .val (.long lo), .second, .val (.double (FP.l2d lo)), .second, .val (.double (FP.l2d l1)), .second, .val (.double (FP.l2d l2)), .second] [(.double (FP.dadd r r))]))
          refine ownVia (fun _ k => XS.dload X9.here hx rfl (hb hby at_207) rfl k) ?_
          show ownFin _ _ _ _ _ (T9.setTop (mkF m 209 #[.val (.int p1), .val (.int p2), .val (.int p3), .val (.int bv), .val (.int wv), .val (.int (0 : Int32)), .val (.int dv), .val (.long mq), .second, .val (.long rq), .second, .val (.long (0 : Int64)), .second, .val (.double r), .second, .val (.double (FP.dadd r r)), .second, .val (.long lo), .second, .val (.double (FP.l2d lo)), .second, .val (.double (FP.l2d l1)), .second, .val (.double (FP.l2d l2)), .second] [(.double (FP.l2d l2)), (.double (FP.dadd r r))]))
          refine ownVia (fun _ k => XS.dcmpS X9.here hx rfl (hb hby at_209) rfl rfl k) ?_
          show ownFin _ _ _ _ _ (T9.setTop (mkF m 210 #[.val (.int p1), .val (.int p2), .val (.int p3), .val (.int bv), .val (.int wv), .val (.int (0 : Int32)), .val (.int dv), .val (.long mq), .second, .val (.long rq), .second, .val (.long (0 : Int64)), .second, .val (.double r), .second, .val (.double (FP.dadd r r)), .second, .val (.long lo), .second, .val (.double (FP.l2d lo)), .second, .val (.double (FP.l2d l1)), .second, .val (.double (FP.l2d l2)), .second] [(.int (cmpValue (FP.dcmp (FP.dadd r r) (FP.l2d l2)) .g))]))
          refine ownVia (fun _ k => XS.ifNo X9.here hx rfl (hb hby at_210) rfl ((if0 _ _).trans (tlt (own_cv1 hq.2)).2.1) k) ?_
          show ownFin _ _ _ _ _ (T9.setTop (mkF m 213 #[.val (.int p1), .val (.int p2), .val (.int p3), .val (.int bv), .val (.int wv), .val (.int (0 : Int32)), .val (.int dv), .val (.long mq), .second, .val (.long rq), .second, .val (.long (0 : Int64)), .second, .val (.double r), .second, .val (.double (FP.dadd r r)), .second, .val (.long lo), .second, .val (.double (FP.l2d lo)), .second, .val (.double (FP.l2d l1)), .second, .val (.double (FP.l2d l2)), .second] []))
          refine ownVia (fun _ k => XS.iconst X9.here hx rfl (hb hby at_213) k) ?_
          show ownFin _ _ _ _ _ (T9.setTop (mkF m 214 #[.val (.int p1), .val (.int p2), .val (.int p3), .val (.int bv), .val (.int wv), .val (.int (0 : Int32)), .val (.int dv), .val (.long mq), .second, .val (.long rq), .second, .val (.long (0 : Int64)), .second, .val (.double r), .second, .val (.double (FP.dadd r r)), .second, .val (.long lo), .second, .val (.double (FP.l2d lo)), .second, .val (.double (FP.l2d l1)), .second, .val (.double (FP.l2d l2)), .second] [(.int (1 : Int32))]))
          refine ownVia (fun _ k => XS.goto X9.here hx rfl (pc0 := 214) (pc' := 218) rfl (hb hby at_214) (by decide) (by decide) k) ?_
          show ownFin _ _ _ _ _ (T9.setTop (mkF m 218 #[.val (.int p1), .val (.int p2), .val (.int p3), .val (.int bv), .val (.int wv), .val (.int (0 : Int32)), .val (.int dv), .val (.long mq), .second, .val (.long rq), .second, .val (.long (0 : Int64)), .second, .val (.double r), .second, .val (.double (FP.dadd r r)), .second, .val (.long lo), .second, .val (.double (FP.l2d lo)), .second, .val (.double (FP.l2d l1)), .second, .val (.double (FP.l2d l2)), .second] [(.int (1 : Int32))]))
          refine ownRetZ X9 hx hlk hret (hb hby at_218) (by decide) (by decide) (Or.inr rfl) ?_
          show (Q_own_law Z p1 p2 p3 h0 n0 ) (some (.int (1 : Int32))) T9.heap _
          rw [e9]
          exact ⟨rfl, N9⟩
  case neg =>
    have hc8I : ¬ (p3 &&& (1 : Int32)).toInt = 0 := fun q => hc8 ((own_eqi rfl (by decide)).mpr q)
    refine ownVia (fun _ k => XS.ifNo X0.here hx rfl (hb hby at_18) rfl ((if0 _ _).trans (feq hc8).1) k) ?_
    show ownFin _ _ _ _ _ (T0.setTop (mkF m 21 #[.val (.int p1), .val (.int p2), .val (.int p3), .val (.int bv), .val (.int wv), .unset, .unset, .unset, .unset, .unset, .unset, .unset, .unset, .unset, .unset, .unset, .unset, .unset, .unset, .unset, .unset, .unset, .unset, .unset, .unset] []))
    refine ownVia (fun _ k => XS.iconst X0.here hx rfl (hb hby at_21) k) ?_
    show ownFin _ _ _ _ _ (T0.setTop (mkF m 22 #[.val (.int p1), .val (.int p2), .val (.int p3), .val (.int bv), .val (.int wv), .unset, .unset, .unset, .unset, .unset, .unset, .unset, .unset, .unset, .unset, .unset, .unset, .unset, .unset, .unset, .unset, .unset, .unset, .unset, .unset] [(.int (1 : Int32))]))
    refine ownVia (fun _ k => XS.goto X0.here hx rfl (pc0 := 22) (pc' := 26) rfl (hb hby at_22) (by decide) (by decide) k) ?_
    show ownFin _ _ _ _ _ (T0.setTop (mkF m 26 #[.val (.int p1), .val (.int p2), .val (.int p3), .val (.int bv), .val (.int wv), .unset, .unset, .unset, .unset, .unset, .unset, .unset, .unset, .unset, .unset, .unset, .unset, .unset, .unset, .unset, .unset, .unset, .unset, .unset, .unset] [(.int (1 : Int32))]))
    refine ownVia (fun _ k => XS.istore X0.here hx rfl (hb hby at_26) rfl (l' := #[.val (.int p1), .val (.int p2), .val (.int p3), .val (.int bv), .val (.int wv), .val (.int (1 : Int32)), .unset, .unset, .unset, .unset, .unset, .unset, .unset, .unset, .unset, .unset, .unset, .unset, .unset, .unset, .unset, .unset, .unset, .unset, .unset]) rfl k) ?_
    show ownFin _ _ _ _ _ (T0.setTop (mkF m 28 #[.val (.int p1), .val (.int p2), .val (.int p3), .val (.int bv), .val (.int wv), .val (.int (1 : Int32)), .unset, .unset, .unset, .unset, .unset, .unset, .unset, .unset, .unset, .unset, .unset, .unset, .unset, .unset, .unset, .unset, .unset, .unset, .unset] []))
    refine ownVia (fun _ k => XS.iload X0.here hx rfl (hb hby at_28) rfl k) ?_
    show ownFin _ _ _ _ _ (T0.setTop (mkF m 30 #[.val (.int p1), .val (.int p2), .val (.int p3), .val (.int bv), .val (.int wv), .val (.int (1 : Int32)), .unset, .unset, .unset, .unset, .unset, .unset, .unset, .unset, .unset, .unset, .unset, .unset, .unset, .unset, .unset, .unset, .unset, .unset, .unset] [(.int wv)]))
    refine ownVia (fun _ k => XS.iconst X0.here hx rfl (hb hby at_30) k) ?_
    show ownFin _ _ _ _ _ (T0.setTop (mkF m 31 #[.val (.int p1), .val (.int p2), .val (.int p3), .val (.int bv), .val (.int wv), .val (.int (1 : Int32)), .unset, .unset, .unset, .unset, .unset, .unset, .unset, .unset, .unset, .unset, .unset, .unset, .unset, .unset, .unset, .unset, .unset, .unset, .unset] [(.int (1 : Int32)), (.int wv)]))
    refine ownVia (fun _ k => XS.iadd X0.here hx rfl (hb hby at_31) rfl k) ?_
    show ownFin _ _ _ _ _ (T0.setTop (mkF m 32 #[.val (.int p1), .val (.int p2), .val (.int p3), .val (.int bv), .val (.int wv), .val (.int (1 : Int32)), .unset, .unset, .unset, .unset, .unset, .unset, .unset, .unset, .unset, .unset, .unset, .unset, .unset, .unset, .unset, .unset, .unset, .unset, .unset] [(.int (wv + (1 : Int32)))]))
    refine ownVia (fun _ k => XS.istore X0.here hx rfl (hb hby at_32) rfl (l' := #[.val (.int p1), .val (.int p2), .val (.int p3), .val (.int bv), .val (.int wv), .val (.int (1 : Int32)), .val (.int (wv + (1 : Int32))), .unset, .unset, .unset, .unset, .unset, .unset, .unset, .unset, .unset, .unset, .unset, .unset, .unset, .unset, .unset, .unset, .unset, .unset]) rfl k) ?_
    show ownFin _ _ _ _ _ (T0.setTop (mkF m 34 #[.val (.int p1), .val (.int p2), .val (.int p3), .val (.int bv), .val (.int wv), .val (.int (1 : Int32)), .val (.int (wv + (1 : Int32))), .unset, .unset, .unset, .unset, .unset, .unset, .unset, .unset, .unset, .unset, .unset, .unset, .unset, .unset, .unset, .unset, .unset, .unset] []))
    refine ownVia (fun _ k => XS.iloadN X0.here hx rfl (hb hby at_34) rfl k) ?_
    show ownFin _ _ _ _ _ (T0.setTop (mkF m 35 #[.val (.int p1), .val (.int p2), .val (.int p3), .val (.int bv), .val (.int wv), .val (.int (1 : Int32)), .val (.int (wv + (1 : Int32))), .unset, .unset, .unset, .unset, .unset, .unset, .unset, .unset, .unset, .unset, .unset, .unset, .unset, .unset, .unset, .unset, .unset, .unset] [(.int bv)]))
    refine ownVia (fun _ k => XS.iload X0.here hx rfl (hb hby at_35) rfl k) ?_
    show ownFin _ _ _ _ _ (T0.setTop (mkF m 37 #[.val (.int p1), .val (.int p2), .val (.int p3), .val (.int bv), .val (.int wv), .val (.int (1 : Int32)), .val (.int (wv + (1 : Int32))), .unset, .unset, .unset, .unset, .unset, .unset, .unset, .unset, .unset, .unset, .unset, .unset, .unset, .unset, .unset, .unset, .unset, .unset] [(.int (wv + (1 : Int32))), (.int bv)]))
    generalize h_dv : (wv + (1 : Int32)) = dv
    show ownFin _ _ _ _ _ (T0.setTop (mkF m 37 #[.val (.int p1), .val (.int p2), .val (.int p3), .val (.int bv), .val (.int wv), .val (.int (1 : Int32)), .val (.int dv), .unset, .unset, .unset, .unset, .unset, .unset, .unset, .unset, .unset, .unset, .unset, .unset, .unset, .unset, .unset, .unset, .unset, .unset] [(.int dv), (.int bv)]))
    have hj0 := hj
    rw [h_dv] at hj
    have dv0 : dv ≠ 0 := fun q => by rw [q, show (0 : Int32).toInt = 0 by decide] at hj; omega
    refine ownVia (fun _ k => XS.idiv X0.here hx rfl (hb hby at_37) rfl dv0 k) ?_
    show ownFin _ _ _ _ _ (T0.setTop (mkF m 38 #[.val (.int p1), .val (.int p2), .val (.int p3), .val (.int bv), .val (.int wv), .val (.int (1 : Int32)), .val (.int dv), .unset, .unset, .unset, .unset, .unset, .unset, .unset, .unset, .unset, .unset, .unset, .unset, .unset, .unset, .unset, .unset, .unset, .unset] [(.int (bv / dv))]))
    refine ownVia (fun _ k => XS.i2l X0.here hx rfl (hb hby at_38) rfl k) ?_
    show ownFin _ _ _ _ _ (T0.setTop (mkF m 39 #[.val (.int p1), .val (.int p2), .val (.int p3), .val (.int bv), .val (.int wv), .val (.int (1 : Int32)), .val (.int dv), .unset, .unset, .unset, .unset, .unset, .unset, .unset, .unset, .unset, .unset, .unset, .unset, .unset, .unset, .unset, .unset, .unset, .unset] [(.long ((bv / dv).toInt64))]))
    refine ownVia (fun _ k => XS.lstore X0.here hx rfl (hb hby at_39) rfl (l' := #[.val (.int p1), .val (.int p2), .val (.int p3), .val (.int bv), .val (.int wv), .val (.int (1 : Int32)), .val (.int dv), .val (.long ((bv / dv).toInt64)), .second, .unset, .unset, .unset, .unset, .unset, .unset, .unset, .unset, .unset, .unset, .unset, .unset, .unset, .unset, .unset, .unset]) rfl k) ?_
    show ownFin _ _ _ _ _ (T0.setTop (mkF m 41 #[.val (.int p1), .val (.int p2), .val (.int p3), .val (.int bv), .val (.int wv), .val (.int (1 : Int32)), .val (.int dv), .val (.long ((bv / dv).toInt64)), .second, .unset, .unset, .unset, .unset, .unset, .unset, .unset, .unset, .unset, .unset, .unset, .unset, .unset, .unset, .unset, .unset] []))
    refine ownVia (fun _ k => XS.iloadN X0.here hx rfl (hb hby at_41) rfl k) ?_
    show ownFin _ _ _ _ _ (T0.setTop (mkF m 42 #[.val (.int p1), .val (.int p2), .val (.int p3), .val (.int bv), .val (.int wv), .val (.int (1 : Int32)), .val (.int dv), .val (.long ((bv / dv).toInt64)), .second, .unset, .unset, .unset, .unset, .unset, .unset, .unset, .unset, .unset, .unset, .unset, .unset, .unset, .unset, .unset, .unset] [(.int bv)]))
    refine ownVia (fun _ k => XS.iload X0.here hx rfl (hb hby at_42) rfl k) ?_
    show ownFin _ _ _ _ _ (T0.setTop (mkF m 44 #[.val (.int p1), .val (.int p2), .val (.int p3), .val (.int bv), .val (.int wv), .val (.int (1 : Int32)), .val (.int dv), .val (.long ((bv / dv).toInt64)), .second, .unset, .unset, .unset, .unset, .unset, .unset, .unset, .unset, .unset, .unset, .unset, .unset, .unset, .unset, .unset, .unset] [(.int dv), (.int bv)]))
    refine ownVia (fun _ k => iremM X0 hx rfl (hb hby at_44) rfl dv0 k) ?_
    show ownFin _ _ _ _ _ (T0.setTop (mkF m 45 #[.val (.int p1), .val (.int p2), .val (.int p3), .val (.int bv), .val (.int wv), .val (.int (1 : Int32)), .val (.int dv), .val (.long ((bv / dv).toInt64)), .second, .unset, .unset, .unset, .unset, .unset, .unset, .unset, .unset, .unset, .unset, .unset, .unset, .unset, .unset, .unset, .unset] [(.int (bv % dv))]))
    refine ownVia (fun _ k => XS.i2l X0.here hx rfl (hb hby at_45) rfl k) ?_
    show ownFin _ _ _ _ _ (T0.setTop (mkF m 46 #[.val (.int p1), .val (.int p2), .val (.int p3), .val (.int bv), .val (.int wv), .val (.int (1 : Int32)), .val (.int dv), .val (.long ((bv / dv).toInt64)), .second, .unset, .unset, .unset, .unset, .unset, .unset, .unset, .unset, .unset, .unset, .unset, .unset, .unset, .unset, .unset, .unset] [(.long ((bv % dv).toInt64))]))
    refine ownVia (fun _ k => XS.lstore X0.here hx rfl (hb hby at_46) rfl (l' := #[.val (.int p1), .val (.int p2), .val (.int p3), .val (.int bv), .val (.int wv), .val (.int (1 : Int32)), .val (.int dv), .val (.long ((bv / dv).toInt64)), .second, .val (.long ((bv % dv).toInt64)), .second, .unset, .unset, .unset, .unset, .unset, .unset, .unset, .unset, .unset, .unset, .unset, .unset, .unset, .unset]) rfl k) ?_
    show ownFin _ _ _ _ _ (T0.setTop (mkF m 48 #[.val (.int p1), .val (.int p2), .val (.int p3), .val (.int bv), .val (.int wv), .val (.int (1 : Int32)), .val (.int dv), .val (.long ((bv / dv).toInt64)), .second, .val (.long ((bv % dv).toInt64)), .second, .unset, .unset, .unset, .unset, .unset, .unset, .unset, .unset, .unset, .unset, .unset, .unset, .unset, .unset] []))
    refine ownVia (fun _ k => XS.iload X0.here hx rfl (hb hby at_48) rfl k) ?_
    show ownFin _ _ _ _ _ (T0.setTop (mkF m 50 #[.val (.int p1), .val (.int p2), .val (.int p3), .val (.int bv), .val (.int wv), .val (.int (1 : Int32)), .val (.int dv), .val (.long ((bv / dv).toInt64)), .second, .val (.long ((bv % dv).toInt64)), .second, .unset, .unset, .unset, .unset, .unset, .unset, .unset, .unset, .unset, .unset, .unset, .unset, .unset, .unset] [(.int (1 : Int32))]))
    have hmq := own_quo hi hj
    have hrq := own_mod hi hj
    generalize h_mq : ((bv / dv).toInt64) = mq
    show ownFin _ _ _ _ _ (T0.setTop (mkF m 50 #[.val (.int p1), .val (.int p2), .val (.int p3), .val (.int bv), .val (.int wv), .val (.int (1 : Int32)), .val (.int dv), .val (.long mq), .second, .val (.long ((bv % dv).toInt64)), .second, .unset, .unset, .unset, .unset, .unset, .unset, .unset, .unset, .unset, .unset, .unset, .unset, .unset, .unset] [(.int (1 : Int32))]))
    generalize h_rq : ((bv % dv).toInt64) = rq
    show ownFin _ _ _ _ _ (T0.setTop (mkF m 50 #[.val (.int p1), .val (.int p2), .val (.int p3), .val (.int bv), .val (.int wv), .val (.int (1 : Int32)), .val (.int dv), .val (.long mq), .second, .val (.long rq), .second, .unset, .unset, .unset, .unset, .unset, .unset, .unset, .unset, .unset, .unset, .unset, .unset, .unset, .unset] [(.int (1 : Int32))]))
    rw [h_mq] at hmq
    rw [h_rq] at hrq
    refine ownVia (fun _ k => XS.ifNo X0.here hx rfl (hb hby at_50) rfl ((if0 _ _).trans (feq (by decide)).1) k) ?_
    show ownFin _ _ _ _ _ (T0.setTop (mkF m 53 #[.val (.int p1), .val (.int p2), .val (.int p3), .val (.int bv), .val (.int wv), .val (.int (1 : Int32)), .val (.int dv), .val (.long mq), .second, .val (.long rq), .second, .unset, .unset, .unset, .unset, .unset, .unset, .unset, .unset, .unset, .unset, .unset, .unset, .unset, .unset] []))
    refine ownVia (fun _ k => XS.iload X0.here hx rfl (hb hby at_53) rfl k) ?_
    show ownFin _ _ _ _ _ (T0.setTop (mkF m 55 #[.val (.int p1), .val (.int p2), .val (.int p3), .val (.int bv), .val (.int wv), .val (.int (1 : Int32)), .val (.int dv), .val (.long mq), .second, .val (.long rq), .second, .unset, .unset, .unset, .unset, .unset, .unset, .unset, .unset, .unset, .unset, .unset, .unset, .unset, .unset] [(.int wv)]))
    obtain ⟨htc, u, hu, u1⟩ := own_tw hwv
    refine ownCallS X0 hx hZ hown (hw _ (List.mem_of_getElem? (i := 6) rfl)) (hw _ (List.mem_of_getElem? (i := 7) rfl)) (hw _ (List.mem_of_getElem? (i := 8) rfl)) (hw _ (List.mem_of_getElem? (i := 9) rfl)) (by decide) e0 (own_table l Z a0 hw wv h0 n0 Z0) (by rw [hml]; rfl) [(.int wv)] [] (lenOf own_pd1 rfl) rfl rfl 0 rfl (hb hby at_55) (by decide) (by decide) (by decide) (by decide) ?_
    intro v13 T13 L13 X13 hq13
    obtain ⟨rfl, N13q, eq13⟩ := hq13
    have N13 := Fr.app N0 N13q
    have e13 : T13.heap = h0 := eq13
    show ownFin _ _ _ _ _ (T13.setTop (mkF m 58 #[.val (.int p1), .val (.int p2), .val (.int p3), .val (.int bv), .val (.int wv), .val (.int (1 : Int32)), .val (.int dv), .val (.long mq), .second, .val (.long rq), .second, .unset, .unset, .unset, .unset, .unset, .unset, .unset, .unset, .unset, .unset, .unset, .unset, .unset, .unset] [(.int (own_tc wv))]))
    rw [htc]
    show ownFin _ _ _ _ _ (T13.setTop (mkF m 58 #[.val (.int p1), .val (.int p2), .val (.int p3), .val (.int bv), .val (.int wv), .val (.int (1 : Int32)), .val (.int dv), .val (.long mq), .second, .val (.long rq), .second, .unset, .unset, .unset, .unset, .unset, .unset, .unset, .unset, .unset, .unset, .unset, .unset, .unset, .unset] [(.int (own_t wv (1 : Int32)))]))
    refine ownVia (fun _ k => XS.i2l X13.here hx rfl (hb hby at_58) rfl k) ?_
    show ownFin _ _ _ _ _ (T13.setTop (mkF m 59 #[.val (.int p1), .val (.int p2), .val (.int p3), .val (.int bv), .val (.int wv), .val (.int (1 : Int32)), .val (.int dv), .val (.long mq), .second, .val (.long rq), .second, .unset, .unset, .unset, .unset, .unset, .unset, .unset, .unset, .unset, .unset, .unset, .unset, .unset, .unset] [(.long ((own_t wv (1 : Int32)).toInt64))]))
    refine ownVia (fun _ k => XS.goto X13.here hx rfl (pc0 := 59) (pc' := 63) rfl (hb hby at_59) (by decide) (by decide) k) ?_
    show ownFin _ _ _ _ _ (T13.setTop (mkF m 63 #[.val (.int p1), .val (.int p2), .val (.int p3), .val (.int bv), .val (.int wv), .val (.int (1 : Int32)), .val (.int dv), .val (.long mq), .second, .val (.long rq), .second, .unset, .unset, .unset, .unset, .unset, .unset, .unset, .unset, .unset, .unset, .unset, .unset, .unset, .unset] [(.long ((own_t wv (1 : Int32)).toInt64))]))
    refine ownVia (fun _ k => XS.lstore X13.here hx rfl (hb hby at_63) rfl (l' := #[.val (.int p1), .val (.int p2), .val (.int p3), .val (.int bv), .val (.int wv), .val (.int (1 : Int32)), .val (.int dv), .val (.long mq), .second, .val (.long rq), .second, .val (.long ((own_t wv (1 : Int32)).toInt64)), .second, .unset, .unset, .unset, .unset, .unset, .unset, .unset, .unset, .unset, .unset, .unset, .unset]) rfl k) ?_
    show ownFin _ _ _ _ _ (T13.setTop (mkF m 65 #[.val (.int p1), .val (.int p2), .val (.int p3), .val (.int bv), .val (.int wv), .val (.int (1 : Int32)), .val (.int dv), .val (.long mq), .second, .val (.long rq), .second, .val (.long ((own_t wv (1 : Int32)).toInt64)), .second, .unset, .unset, .unset, .unset, .unset, .unset, .unset, .unset, .unset, .unset, .unset, .unset] []))
    refine ownVia (fun _ k => XS.iloadN X13.here hx rfl (hb hby at_65) rfl k) ?_
    show ownFin _ _ _ _ _ (T13.setTop (mkF m 66 #[.val (.int p1), .val (.int p2), .val (.int p3), .val (.int bv), .val (.int wv), .val (.int (1 : Int32)), .val (.int dv), .val (.long mq), .second, .val (.long rq), .second, .val (.long ((own_t wv (1 : Int32)).toInt64)), .second, .unset, .unset, .unset, .unset, .unset, .unset, .unset, .unset, .unset, .unset, .unset, .unset] [(.int bv)]))
    refine ownVia (fun _ k => XS.iload X13.here hx rfl (hb hby at_66) rfl k) ?_
    show ownFin _ _ _ _ _ (T13.setTop (mkF m 68 #[.val (.int p1), .val (.int p2), .val (.int p3), .val (.int bv), .val (.int wv), .val (.int (1 : Int32)), .val (.int dv), .val (.long mq), .second, .val (.long rq), .second, .val (.long ((own_t wv (1 : Int32)).toInt64)), .second, .unset, .unset, .unset, .unset, .unset, .unset, .unset, .unset, .unset, .unset, .unset, .unset] [(.int wv), (.int bv)]))
    refine ownVia (fun _ k => XS.iload X13.here hx rfl (hb hby at_68) rfl k) ?_
    show ownFin _ _ _ _ _ (T13.setTop (mkF m 70 #[.val (.int p1), .val (.int p2), .val (.int p3), .val (.int bv), .val (.int wv), .val (.int (1 : Int32)), .val (.int dv), .val (.long mq), .second, .val (.long rq), .second, .val (.long ((own_t wv (1 : Int32)).toInt64)), .second, .unset, .unset, .unset, .unset, .unset, .unset, .unset, .unset, .unset, .unset, .unset, .unset] [(.int (1 : Int32)), (.int wv), (.int bv)]))
    refine ownCallS X13 hx hZ hown (hw _ (List.mem_of_getElem? (i := 1) rfl)) (hw _ (List.mem_of_getElem? (i := 2) rfl)) (hw _ (List.mem_of_getElem? (i := 3) rfl)) (hw _ (List.mem_of_getElem? (i := 4) rfl)) (by decide) e13 (own_cost l Z a0 hw bv wv (1 : Int32) h0 n0 Z0 (by rw [hj0]; omega)) (by rw [hml]; rfl) [(.int bv), (.int wv), (.int (1 : Int32))] [] (lenOf own_pd0 rfl) rfl rfl 0 rfl (hb hby at_70) (by decide) (by decide) (by decide) (by decide) ?_
    intro v14 T14 L14 X14 hq14
    obtain ⟨rfl, N14q, eq14⟩ := hq14
    have N14 := Fr.app N13 N14q
    have e14 : T14.heap = h0 := eq14
    show ownFin _ _ _ _ _ (T14.setTop (mkF m 73 #[.val (.int p1), .val (.int p2), .val (.int p3), .val (.int bv), .val (.int wv), .val (.int (1 : Int32)), .val (.int dv), .val (.long mq), .second, .val (.long rq), .second, .val (.long ((own_t wv (1 : Int32)).toInt64)), .second, .unset, .unset, .unset, .unset, .unset, .unset, .unset, .unset, .unset, .unset, .unset, .unset] [(.double (FP.dadd (FP.ddiv (FP.i2d bv) (FP.i2d (wv + (1 : Int32)))) (FP.i2d (own_t wv (1 : Int32)))))]))
    have nr : Jvm.Free.Fl.NoNaN64 (FP.dadd (FP.dadd (FP.ddiv (FP.i2d bv) (FP.i2d (wv + (1 : Int32)))) (FP.i2d (own_t wv (1 : Int32)))) (FP.dadd (FP.ddiv (FP.i2d bv) (FP.i2d (wv + (1 : Int32)))) (FP.i2d (own_t wv (1 : Int32))))) := own_nan3 bv _ (by rw [hj0]; omega)
    have er : (FP.dadd (FP.ddiv (FP.i2d bv) (FP.i2d (wv + (1 : Int32)))) (FP.i2d (own_t wv (1 : Int32)))) = FP.dadd (FP.ddiv (FP.l2d bv.toInt64) (FP.l2d (wv + (1 : Int32)).toInt64)) (FP.l2d (own_t wv (1 : Int32)).toInt64) := by rw [i2d_w, i2d_w, i2d_w]
    generalize h_r : (FP.dadd (FP.ddiv (FP.i2d bv) (FP.i2d (wv + (1 : Int32)))) (FP.i2d (own_t wv (1 : Int32)))) = r
    show ownFin _ _ _ _ _ (T14.setTop (mkF m 73 #[.val (.int p1), .val (.int p2), .val (.int p3), .val (.int bv), .val (.int wv), .val (.int (1 : Int32)), .val (.int dv), .val (.long mq), .second, .val (.long rq), .second, .val (.long ((own_t wv (1 : Int32)).toInt64)), .second, .unset, .unset, .unset, .unset, .unset, .unset, .unset, .unset, .unset, .unset, .unset, .unset] [(.double r)]))
    rw [h_r] at nr er
    rw [h_dv] at er
    refine ownVia (fun _ k => XS.dstore X14.here hx rfl (hb hby at_73) rfl (l' := #[.val (.int p1), .val (.int p2), .val (.int p3), .val (.int bv), .val (.int wv), .val (.int (1 : Int32)), .val (.int dv), .val (.long mq), .second, .val (.long rq), .second, .val (.long ((own_t wv (1 : Int32)).toInt64)), .second, .val (.double r), .second, .unset, .unset, .unset, .unset, .unset, .unset, .unset, .unset, .unset, .unset]) rfl k) ?_
    show ownFin _ _ _ _ _ (T14.setTop (mkF m 75 #[.val (.int p1), .val (.int p2), .val (.int p3), .val (.int bv), .val (.int wv), .val (.int (1 : Int32)), .val (.int dv), .val (.long mq), .second, .val (.long rq), .second, .val (.long ((own_t wv (1 : Int32)).toInt64)), .second, .val (.double r), .second, .unset, .unset, .unset, .unset, .unset, .unset, .unset, .unset, .unset, .unset] []))
    refine ownVia (fun _ k => XS.dload X14.here hx rfl (hb hby at_75) rfl k) ?_
    show ownFin _ _ _ _ _ (T14.setTop (mkF m 77 #[.val (.int p1), .val (.int p2), .val (.int p3), .val (.int bv), .val (.int wv), .val (.int (1 : Int32)), .val (.int dv), .val (.long mq), .second, .val (.long rq), .second, .val (.long ((own_t wv (1 : Int32)).toInt64)), .second, .val (.double r), .second, .unset, .unset, .unset, .unset, .unset, .unset, .unset, .unset, .unset, .unset] [(.double r)]))
    refine ownVia (fun _ k => XS.dload X14.here hx rfl (hb hby at_77) rfl k) ?_
    show ownFin _ _ _ _ _ (T14.setTop (mkF m 79 #[.val (.int p1), .val (.int p2), .val (.int p3), .val (.int bv), .val (.int wv), .val (.int (1 : Int32)), .val (.int dv), .val (.long mq), .second, .val (.long rq), .second, .val (.long ((own_t wv (1 : Int32)).toInt64)), .second, .val (.double r), .second, .unset, .unset, .unset, .unset, .unset, .unset, .unset, .unset, .unset, .unset] [(.double r), (.double r)]))
    refine ownVia (fun _ k => XS.daddS X14.here hx rfl (hb hby at_79) rfl nr rfl k) ?_
    show ownFin _ _ _ _ _ (T14.setTop (mkF m 80 #[.val (.int p1), .val (.int p2), .val (.int p3), .val (.int bv), .val (.int wv), .val (.int (1 : Int32)), .val (.int dv), .val (.long mq), .second, .val (.long rq), .second, .val (.long ((own_t wv (1 : Int32)).toInt64)), .second, .val (.double r), .second, .unset, .unset, .unset, .unset, .unset, .unset, .unset, .unset, .unset, .unset] [(.double (FP.dadd r r))]))
    refine ownVia (fun _ k => XS.dstore X14.here hx rfl (hb hby at_80) rfl (l' := #[.val (.int p1), .val (.int p2), .val (.int p3), .val (.int bv), .val (.int wv), .val (.int (1 : Int32)), .val (.int dv), .val (.long mq), .second, .val (.long rq), .second, .val (.long ((own_t wv (1 : Int32)).toInt64)), .second, .val (.double r), .second, .val (.double (FP.dadd r r)), .second, .unset, .unset, .unset, .unset, .unset, .unset, .unset, .unset]) rfl k) ?_
    show ownFin _ _ _ _ _ (T14.setTop (mkF m 82 #[.val (.int p1), .val (.int p2), .val (.int p3), .val (.int bv), .val (.int wv), .val (.int (1 : Int32)), .val (.int dv), .val (.long mq), .second, .val (.long rq), .second, .val (.long ((own_t wv (1 : Int32)).toInt64)), .second, .val (.double r), .second, .val (.double (FP.dadd r r)), .second, .unset, .unset, .unset, .unset, .unset, .unset, .unset, .unset] []))
    refine ownVia (fun _ k => X14.ldc2Long hx hown (mvT hZ (hw _ (List.mem_of_getElem? (i := 5) rfl))) (g := (mkF m 82 #[.val (.int p1), .val (.int p2), .val (.int p3), .val (.int bv), .val (.int wv), .val (.int (1 : Int32)), .val (.int dv), .val (.long mq), .second, .val (.long rq), .second, .val (.long ((own_t wv (1 : Int32)).toInt64)), .second, .val (.double r), .second, .val (.double (FP.dadd r r)), .second, .unset, .unset, .unset, .unset, .unset, .unset, .unset, .unset] [])) rfl (hb hby at_82) _ k) ?_
    show ownFin _ _ _ _ _ (T14.setTop (mkF m 85 #[.val (.int p1), .val (.int p2), .val (.int p3), .val (.int bv), .val (.int wv), .val (.int (1 : Int32)), .val (.int dv), .val (.long mq), .second, .val (.long rq), .second, .val (.long ((own_t wv (1 : Int32)).toInt64)), .second, .val (.double r), .second, .val (.double (FP.dadd r r)), .second, .unset, .unset, .unset, .unset, .unset, .unset, .unset, .unset] [(.long (2 : Int64))]))
    refine ownVia (fun _ k => XS.lload X14.here hx rfl (hb hby at_85) rfl k) ?_
    show ownFin _ _ _ _ _ (T14.setTop (mkF m 87 #[.val (.int p1), .val (.int p2), .val (.int p3), .val (.int bv), .val (.int wv), .val (.int (1 : Int32)), .val (.int dv), .val (.long mq), .second, .val (.long rq), .second, .val (.long ((own_t wv (1 : Int32)).toInt64)), .second, .val (.double r), .second, .val (.double (FP.dadd r r)), .second, .unset, .unset, .unset, .unset, .unset, .unset, .unset, .unset] [(.long mq), (.long (2 : Int64))]))
    refine ownVia (fun _ k => XS.lload X14.here hx rfl (hb hby at_87) rfl k) ?_
    show ownFin _ _ _ _ _ (T14.setTop (mkF m 89 #[.val (.int p1), .val (.int p2), .val (.int p3), .val (.int bv), .val (.int wv), .val (.int (1 : Int32)), .val (.int dv), .val (.long mq), .second, .val (.long rq), .second, .val (.long ((own_t wv (1 : Int32)).toInt64)), .second, .val (.double r), .second, .val (.double (FP.dadd r r)), .second, .unset, .unset, .unset, .unset, .unset, .unset, .unset, .unset] [(.long ((own_t wv (1 : Int32)).toInt64)), (.long mq), (.long (2 : Int64))]))
    refine ownVia (fun _ k => XS.ladd X14.here hx rfl (hb hby at_89) rfl k) ?_
    show ownFin _ _ _ _ _ (T14.setTop (mkF m 90 #[.val (.int p1), .val (.int p2), .val (.int p3), .val (.int bv), .val (.int wv), .val (.int (1 : Int32)), .val (.int dv), .val (.long mq), .second, .val (.long rq), .second, .val (.long ((own_t wv (1 : Int32)).toInt64)), .second, .val (.double r), .second, .val (.double (FP.dadd r r)), .second, .unset, .unset, .unset, .unset, .unset, .unset, .unset, .unset] [(.long (mq + ((own_t wv (1 : Int32)).toInt64))), (.long (2 : Int64))]))
    refine ownVia (fun _ k => XS.lmul X14.here hx rfl (hb hby at_90) rfl k) ?_
    show ownFin _ _ _ _ _ (T14.setTop (mkF m 91 #[.val (.int p1), .val (.int p2), .val (.int p3), .val (.int bv), .val (.int wv), .val (.int (1 : Int32)), .val (.int dv), .val (.long mq), .second, .val (.long rq), .second, .val (.long ((own_t wv (1 : Int32)).toInt64)), .second, .val (.double r), .second, .val (.double (FP.dadd r r)), .second, .unset, .unset, .unset, .unset, .unset, .unset, .unset, .unset] [(.long ((2 : Int64) * (mq + ((own_t wv (1 : Int32)).toInt64))))]))
    refine ownVia (fun _ k => XS.lstore X14.here hx rfl (hb hby at_91) rfl (l' := #[.val (.int p1), .val (.int p2), .val (.int p3), .val (.int bv), .val (.int wv), .val (.int (1 : Int32)), .val (.int dv), .val (.long mq), .second, .val (.long rq), .second, .val (.long ((own_t wv (1 : Int32)).toInt64)), .second, .val (.double r), .second, .val (.double (FP.dadd r r)), .second, .val (.long ((2 : Int64) * (mq + ((own_t wv (1 : Int32)).toInt64)))), .second, .unset, .unset, .unset, .unset, .unset, .unset]) rfl k) ?_
    show ownFin _ _ _ _ _ (T14.setTop (mkF m 93 #[.val (.int p1), .val (.int p2), .val (.int p3), .val (.int bv), .val (.int wv), .val (.int (1 : Int32)), .val (.int dv), .val (.long mq), .second, .val (.long rq), .second, .val (.long ((own_t wv (1 : Int32)).toInt64)), .second, .val (.double r), .second, .val (.double (FP.dadd r r)), .second, .val (.long ((2 : Int64) * (mq + ((own_t wv (1 : Int32)).toInt64)))), .second, .unset, .unset, .unset, .unset, .unset, .unset] []))
    refine ownVia (fun _ k => XS.lload X14.here hx rfl (hb hby at_93) rfl k) ?_
    show ownFin _ _ _ _ _ (T14.setTop (mkF m 95 #[.val (.int p1), .val (.int p2), .val (.int p3), .val (.int bv), .val (.int wv), .val (.int (1 : Int32)), .val (.int dv), .val (.long mq), .second, .val (.long rq), .second, .val (.long ((own_t wv (1 : Int32)).toInt64)), .second, .val (.double r), .second, .val (.double (FP.dadd r r)), .second, .val (.long ((2 : Int64) * (mq + ((own_t wv (1 : Int32)).toInt64)))), .second, .unset, .unset, .unset, .unset, .unset, .unset] [(.long ((2 : Int64) * (mq + ((own_t wv (1 : Int32)).toInt64))))]))
    refine ownVia (fun _ k => XS.l2dS X14.here hx rfl (hb hby at_95) rfl rfl k) ?_
    show ownFin _ _ _ _ _ (T14.setTop (mkF m 96 #[.val (.int p1), .val (.int p2), .val (.int p3), .val (.int bv), .val (.int wv), .val (.int (1 : Int32)), .val (.int dv), .val (.long mq), .second, .val (.long rq), .second, .val (.long ((own_t wv (1 : Int32)).toInt64)), .second, .val (.double r), .second, .val (.double (FP.dadd r r)), .second, .val (.long ((2 : Int64) * (mq + ((own_t wv (1 : Int32)).toInt64)))), .second, .unset, .unset, .unset, .unset, .unset, .unset] [(.double (FP.l2d ((2 : Int64) * (mq + ((own_t wv (1 : Int32)).toInt64)))))]))
    refine ownVia (fun _ k => XS.dstore X14.here hx rfl (hb hby at_96) rfl (l' := #[.val (.int p1), .val (.int p2), .val (.int p3), .val (.int bv), .val (.int wv), .val (.int (1 : Int32)), .val (.int dv), .val (.long mq), .second, .val (.long rq), .second, .val (.long ((own_t wv (1 : Int32)).toInt64)), .second, .val (.double r), .second, .val (.double (FP.dadd r r)), .second, .val (.long ((2 : Int64) * (mq + ((own_t wv (1 : Int32)).toInt64)))), .second, .val (.double (FP.l2d ((2 : Int64) * (mq + ((own_t wv (1 : Int32)).toInt64))))), .second, .unset, .unset, .unset, .unset]) rfl k) ?_
    show ownFin _ _ _ _ _ (T14.setTop (mkF m 98 #[.val (.int p1), .val (.int p2), .val (.int p3), .val (.int bv), .val (.int wv), .val (.int (1 : Int32)), .val (.int dv), .val (.long mq), .second, .val (.long rq), .second, .val (.long ((own_t wv (1 : Int32)).toInt64)), .second, .val (.double r), .second, .val (.double (FP.dadd r r)), .second, .val (.long ((2 : Int64) * (mq + ((own_t wv (1 : Int32)).toInt64)))), .second, .val (.double (FP.l2d ((2 : Int64) * (mq + ((own_t wv (1 : Int32)).toInt64))))), .second, .unset, .unset, .unset, .unset] []))
    refine ownVia (fun _ k => XS.lload X14.here hx rfl (hb hby at_98) rfl k) ?_
    show ownFin _ _ _ _ _ (T14.setTop (mkF m 100 #[.val (.int p1), .val (.int p2), .val (.int p3), .val (.int bv), .val (.int wv), .val (.int (1 : Int32)), .val (.int dv), .val (.long mq), .second, .val (.long rq), .second, .val (.long ((own_t wv (1 : Int32)).toInt64)), .second, .val (.double r), .second, .val (.double (FP.dadd r r)), .second, .val (.long ((2 : Int64) * (mq + ((own_t wv (1 : Int32)).toInt64)))), .second, .val (.double (FP.l2d ((2 : Int64) * (mq + ((own_t wv (1 : Int32)).toInt64))))), .second, .unset, .unset, .unset, .unset] [(.long ((2 : Int64) * (mq + ((own_t wv (1 : Int32)).toInt64))))]))
    refine ownVia (fun _ k => XS.lconst X14.here hx rfl (hb hby at_100) k) ?_
    show ownFin _ _ _ _ _ (T14.setTop (mkF m 101 #[.val (.int p1), .val (.int p2), .val (.int p3), .val (.int bv), .val (.int wv), .val (.int (1 : Int32)), .val (.int dv), .val (.long mq), .second, .val (.long rq), .second, .val (.long ((own_t wv (1 : Int32)).toInt64)), .second, .val (.double r), .second, .val (.double (FP.dadd r r)), .second, .val (.long ((2 : Int64) * (mq + ((own_t wv (1 : Int32)).toInt64)))), .second, .val (.double (FP.l2d ((2 : Int64) * (mq + ((own_t wv (1 : Int32)).toInt64))))), .second, .unset, .unset, .unset, .unset] [(.long (1 : Int64)), (.long ((2 : Int64) * (mq + ((own_t wv (1 : Int32)).toInt64))))]))
    refine ownVia (fun _ k => XS.ladd X14.here hx rfl (hb hby at_101) rfl k) ?_
    show ownFin _ _ _ _ _ (T14.setTop (mkF m 102 #[.val (.int p1), .val (.int p2), .val (.int p3), .val (.int bv), .val (.int wv), .val (.int (1 : Int32)), .val (.int dv), .val (.long mq), .second, .val (.long rq), .second, .val (.long ((own_t wv (1 : Int32)).toInt64)), .second, .val (.double r), .second, .val (.double (FP.dadd r r)), .second, .val (.long ((2 : Int64) * (mq + ((own_t wv (1 : Int32)).toInt64)))), .second, .val (.double (FP.l2d ((2 : Int64) * (mq + ((own_t wv (1 : Int32)).toInt64))))), .second, .unset, .unset, .unset, .unset] [(.long (((2 : Int64) * (mq + ((own_t wv (1 : Int32)).toInt64))) + (1 : Int64)))]))
    refine ownVia (fun _ k => XS.l2dS X14.here hx rfl (hb hby at_102) rfl rfl k) ?_
    show ownFin _ _ _ _ _ (T14.setTop (mkF m 103 #[.val (.int p1), .val (.int p2), .val (.int p3), .val (.int bv), .val (.int wv), .val (.int (1 : Int32)), .val (.int dv), .val (.long mq), .second, .val (.long rq), .second, .val (.long ((own_t wv (1 : Int32)).toInt64)), .second, .val (.double r), .second, .val (.double (FP.dadd r r)), .second, .val (.long ((2 : Int64) * (mq + ((own_t wv (1 : Int32)).toInt64)))), .second, .val (.double (FP.l2d ((2 : Int64) * (mq + ((own_t wv (1 : Int32)).toInt64))))), .second, .unset, .unset, .unset, .unset] [(.double (FP.l2d (((2 : Int64) * (mq + ((own_t wv (1 : Int32)).toInt64))) + (1 : Int64))))]))
    refine ownVia (fun _ k => XS.dstore X14.here hx rfl (hb hby at_103) rfl (l' := #[.val (.int p1), .val (.int p2), .val (.int p3), .val (.int bv), .val (.int wv), .val (.int (1 : Int32)), .val (.int dv), .val (.long mq), .second, .val (.long rq), .second, .val (.long ((own_t wv (1 : Int32)).toInt64)), .second, .val (.double r), .second, .val (.double (FP.dadd r r)), .second, .val (.long ((2 : Int64) * (mq + ((own_t wv (1 : Int32)).toInt64)))), .second, .val (.double (FP.l2d ((2 : Int64) * (mq + ((own_t wv (1 : Int32)).toInt64))))), .second, .val (.double (FP.l2d (((2 : Int64) * (mq + ((own_t wv (1 : Int32)).toInt64))) + (1 : Int64)))), .second, .unset, .unset]) rfl k) ?_
    show ownFin _ _ _ _ _ (T14.setTop (mkF m 105 #[.val (.int p1), .val (.int p2), .val (.int p3), .val (.int bv), .val (.int wv), .val (.int (1 : Int32)), .val (.int dv), .val (.long mq), .second, .val (.long rq), .second, .val (.long ((own_t wv (1 : Int32)).toInt64)), .second, .val (.double r), .second, .val (.double (FP.dadd r r)), .second, .val (.long ((2 : Int64) * (mq + ((own_t wv (1 : Int32)).toInt64)))), .second, .val (.double (FP.l2d ((2 : Int64) * (mq + ((own_t wv (1 : Int32)).toInt64))))), .second, .val (.double (FP.l2d (((2 : Int64) * (mq + ((own_t wv (1 : Int32)).toInt64))) + (1 : Int64)))), .second, .unset, .unset] []))
    refine ownVia (fun _ k => XS.lload X14.here hx rfl (hb hby at_105) rfl k) ?_
    show ownFin _ _ _ _ _ (T14.setTop (mkF m 107 #[.val (.int p1), .val (.int p2), .val (.int p3), .val (.int bv), .val (.int wv), .val (.int (1 : Int32)), .val (.int dv), .val (.long mq), .second, .val (.long rq), .second, .val (.long ((own_t wv (1 : Int32)).toInt64)), .second, .val (.double r), .second, .val (.double (FP.dadd r r)), .second, .val (.long ((2 : Int64) * (mq + ((own_t wv (1 : Int32)).toInt64)))), .second, .val (.double (FP.l2d ((2 : Int64) * (mq + ((own_t wv (1 : Int32)).toInt64))))), .second, .val (.double (FP.l2d (((2 : Int64) * (mq + ((own_t wv (1 : Int32)).toInt64))) + (1 : Int64)))), .second, .unset, .unset] [(.long ((2 : Int64) * (mq + ((own_t wv (1 : Int32)).toInt64))))]))
    refine ownVia (fun _ k => X14.ldc2Long hx hown (mvT hZ (hw _ (List.mem_of_getElem? (i := 5) rfl))) (g := (mkF m 107 #[.val (.int p1), .val (.int p2), .val (.int p3), .val (.int bv), .val (.int wv), .val (.int (1 : Int32)), .val (.int dv), .val (.long mq), .second, .val (.long rq), .second, .val (.long ((own_t wv (1 : Int32)).toInt64)), .second, .val (.double r), .second, .val (.double (FP.dadd r r)), .second, .val (.long ((2 : Int64) * (mq + ((own_t wv (1 : Int32)).toInt64)))), .second, .val (.double (FP.l2d ((2 : Int64) * (mq + ((own_t wv (1 : Int32)).toInt64))))), .second, .val (.double (FP.l2d (((2 : Int64) * (mq + ((own_t wv (1 : Int32)).toInt64))) + (1 : Int64)))), .second, .unset, .unset] [(.long ((2 : Int64) * (mq + ((own_t wv (1 : Int32)).toInt64))))])) rfl (hb hby at_107) _ k) ?_
    show ownFin _ _ _ _ _ (T14.setTop (mkF m 110 #[.val (.int p1), .val (.int p2), .val (.int p3), .val (.int bv), .val (.int wv), .val (.int (1 : Int32)), .val (.int dv), .val (.long mq), .second, .val (.long rq), .second, .val (.long ((own_t wv (1 : Int32)).toInt64)), .second, .val (.double r), .second, .val (.double (FP.dadd r r)), .second, .val (.long ((2 : Int64) * (mq + ((own_t wv (1 : Int32)).toInt64)))), .second, .val (.double (FP.l2d ((2 : Int64) * (mq + ((own_t wv (1 : Int32)).toInt64))))), .second, .val (.double (FP.l2d (((2 : Int64) * (mq + ((own_t wv (1 : Int32)).toInt64))) + (1 : Int64)))), .second, .unset, .unset] [(.long (2 : Int64)), (.long ((2 : Int64) * (mq + ((own_t wv (1 : Int32)).toInt64))))]))
    refine ownVia (fun _ k => XS.ladd X14.here hx rfl (hb hby at_110) rfl k) ?_
    show ownFin _ _ _ _ _ (T14.setTop (mkF m 111 #[.val (.int p1), .val (.int p2), .val (.int p3), .val (.int bv), .val (.int wv), .val (.int (1 : Int32)), .val (.int dv), .val (.long mq), .second, .val (.long rq), .second, .val (.long ((own_t wv (1 : Int32)).toInt64)), .second, .val (.double r), .second, .val (.double (FP.dadd r r)), .second, .val (.long ((2 : Int64) * (mq + ((own_t wv (1 : Int32)).toInt64)))), .second, .val (.double (FP.l2d ((2 : Int64) * (mq + ((own_t wv (1 : Int32)).toInt64))))), .second, .val (.double (FP.l2d (((2 : Int64) * (mq + ((own_t wv (1 : Int32)).toInt64))) + (1 : Int64)))), .second, .unset, .unset] [(.long (((2 : Int64) * (mq + ((own_t wv (1 : Int32)).toInt64))) + (2 : Int64)))]))
    refine ownVia (fun _ k => XS.l2dS X14.here hx rfl (hb hby at_111) rfl rfl k) ?_
    show ownFin _ _ _ _ _ (T14.setTop (mkF m 112 #[.val (.int p1), .val (.int p2), .val (.int p3), .val (.int bv), .val (.int wv), .val (.int (1 : Int32)), .val (.int dv), .val (.long mq), .second, .val (.long rq), .second, .val (.long ((own_t wv (1 : Int32)).toInt64)), .second, .val (.double r), .second, .val (.double (FP.dadd r r)), .second, .val (.long ((2 : Int64) * (mq + ((own_t wv (1 : Int32)).toInt64)))), .second, .val (.double (FP.l2d ((2 : Int64) * (mq + ((own_t wv (1 : Int32)).toInt64))))), .second, .val (.double (FP.l2d (((2 : Int64) * (mq + ((own_t wv (1 : Int32)).toInt64))) + (1 : Int64)))), .second, .unset, .unset] [(.double (FP.l2d (((2 : Int64) * (mq + ((own_t wv (1 : Int32)).toInt64))) + (2 : Int64))))]))
    refine ownVia (fun _ k => XS.dstore X14.here hx rfl (hb hby at_112) rfl (l' := #[.val (.int p1), .val (.int p2), .val (.int p3), .val (.int bv), .val (.int wv), .val (.int (1 : Int32)), .val (.int dv), .val (.long mq), .second, .val (.long rq), .second, .val (.long ((own_t wv (1 : Int32)).toInt64)), .second, .val (.double r), .second, .val (.double (FP.dadd r r)), .second, .val (.long ((2 : Int64) * (mq + ((own_t wv (1 : Int32)).toInt64)))), .second, .val (.double (FP.l2d ((2 : Int64) * (mq + ((own_t wv (1 : Int32)).toInt64))))), .second, .val (.double (FP.l2d (((2 : Int64) * (mq + ((own_t wv (1 : Int32)).toInt64))) + (1 : Int64)))), .second, .val (.double (FP.l2d (((2 : Int64) * (mq + ((own_t wv (1 : Int32)).toInt64))) + (2 : Int64)))), .second]) rfl k) ?_
    show ownFin _ _ _ _ _ (T14.setTop (mkF m 114 #[.val (.int p1), .val (.int p2), .val (.int p3), .val (.int bv), .val (.int wv), .val (.int (1 : Int32)), .val (.int dv), .val (.long mq), .second, .val (.long rq), .second, .val (.long ((own_t wv (1 : Int32)).toInt64)), .second, .val (.double r), .second, .val (.double (FP.dadd r r)), .second, .val (.long ((2 : Int64) * (mq + ((own_t wv (1 : Int32)).toInt64)))), .second, .val (.double (FP.l2d ((2 : Int64) * (mq + ((own_t wv (1 : Int32)).toInt64))))), .second, .val (.double (FP.l2d (((2 : Int64) * (mq + ((own_t wv (1 : Int32)).toInt64))) + (1 : Int64)))), .second, .val (.double (FP.l2d (((2 : Int64) * (mq + ((own_t wv (1 : Int32)).toInt64))) + (2 : Int64)))), .second] []))
    refine ownVia (fun _ k => XS.lload X14.here hx rfl (hb hby at_114) rfl k) ?_
    show ownFin _ _ _ _ _ (T14.setTop (mkF m 116 #[.val (.int p1), .val (.int p2), .val (.int p3), .val (.int bv), .val (.int wv), .val (.int (1 : Int32)), .val (.int dv), .val (.long mq), .second, .val (.long rq), .second, .val (.long ((own_t wv (1 : Int32)).toInt64)), .second, .val (.double r), .second, .val (.double (FP.dadd r r)), .second, .val (.long ((2 : Int64) * (mq + ((own_t wv (1 : Int32)).toInt64)))), .second, .val (.double (FP.l2d ((2 : Int64) * (mq + ((own_t wv (1 : Int32)).toInt64))))), .second, .val (.double (FP.l2d (((2 : Int64) * (mq + ((own_t wv (1 : Int32)).toInt64))) + (1 : Int64)))), .second, .val (.double (FP.l2d (((2 : Int64) * (mq + ((own_t wv (1 : Int32)).toInt64))) + (2 : Int64)))), .second] [(.long rq)]))
    refine ownVia (fun _ k => XS.lconst X14.here hx rfl (hb hby at_116) k) ?_
    show ownFin _ _ _ _ _ (T14.setTop (mkF m 117 #[.val (.int p1), .val (.int p2), .val (.int p3), .val (.int bv), .val (.int wv), .val (.int (1 : Int32)), .val (.int dv), .val (.long mq), .second, .val (.long rq), .second, .val (.long ((own_t wv (1 : Int32)).toInt64)), .second, .val (.double r), .second, .val (.double (FP.dadd r r)), .second, .val (.long ((2 : Int64) * (mq + ((own_t wv (1 : Int32)).toInt64)))), .second, .val (.double (FP.l2d ((2 : Int64) * (mq + ((own_t wv (1 : Int32)).toInt64))))), .second, .val (.double (FP.l2d (((2 : Int64) * (mq + ((own_t wv (1 : Int32)).toInt64))) + (1 : Int64)))), .second, .val (.double (FP.l2d (((2 : Int64) * (mq + ((own_t wv (1 : Int32)).toInt64))) + (2 : Int64)))), .second] [(.long (0 : Int64)), (.long rq)]))
    refine ownVia (fun _ k => XS.lcmp X14.here hx rfl (hb hby at_117) rfl k) ?_
    show ownFin _ _ _ _ _ (T14.setTop (mkF m 118 #[.val (.int p1), .val (.int p2), .val (.int p3), .val (.int bv), .val (.int wv), .val (.int (1 : Int32)), .val (.int dv), .val (.long mq), .second, .val (.long rq), .second, .val (.long ((own_t wv (1 : Int32)).toInt64)), .second, .val (.double r), .second, .val (.double (FP.dadd r r)), .second, .val (.long ((2 : Int64) * (mq + ((own_t wv (1 : Int32)).toInt64)))), .second, .val (.double (FP.l2d ((2 : Int64) * (mq + ((own_t wv (1 : Int32)).toInt64))))), .second, .val (.double (FP.l2d (((2 : Int64) * (mq + ((own_t wv (1 : Int32)).toInt64))) + (1 : Int64)))), .second, .val (.double (FP.l2d (((2 : Int64) * (mq + ((own_t wv (1 : Int32)).toInt64))) + (2 : Int64)))), .second] [(.int (lcmpW rq (0 : Int64)))]))
    have hlo : ((2 : Int64) * (mq + ((own_t wv (1 : Int32)).toInt64))).toInt = ((2 * (i / j + u) : Nat) : Int) := own_low hmq hu (Nat.lt_of_le_of_lt (Nat.div_le_self i j) i1) u1
    generalize h_lo : ((2 : Int64) * (mq + ((own_t wv (1 : Int32)).toInt64))) = lo
    show ownFin _ _ _ _ _ (T14.setTop (mkF m 118 #[.val (.int p1), .val (.int p2), .val (.int p3), .val (.int bv), .val (.int wv), .val (.int (1 : Int32)), .val (.int dv), .val (.long mq), .second, .val (.long rq), .second, .val (.long ((own_t wv (1 : Int32)).toInt64)), .second, .val (.double r), .second, .val (.double (FP.dadd r r)), .second, .val (.long lo), .second, .val (.double (FP.l2d lo)), .second, .val (.double (FP.l2d (lo + (1 : Int64)))), .second, .val (.double (FP.l2d (lo + (2 : Int64)))), .second] [(.int (lcmpW rq (0 : Int64)))]))
    rw [h_lo] at hlo
    have kd : i / j ≤ i := Nat.div_le_self i j
    have hm1 := own_plus hlo (show (1 : Int64).toInt = ((1 : Nat) : Int) by decide) (by omega) (by decide)
    have hm2 := own_plus hlo (show (2 : Int64).toInt = ((2 : Nat) : Int) by decide) (by omega) (by decide)
    generalize h_l1 : (lo + (1 : Int64)) = l1
    show ownFin _ _ _ _ _ (T14.setTop (mkF m 118 #[.val (.int p1), .val (.int p2), .val (.int p3), .val (.int bv), .val (.int wv), .val (.int (1 : Int32)), .val (.int dv), .val (.long mq), .second, .val (.long rq), .second, .val (.long ((own_t wv (1 : Int32)).toInt64)), .second, .val (.double r), .second, .val (.double (FP.dadd r r)), .second, .val (.long lo), .second, .val (.double (FP.l2d lo)), .second, .val (.double (FP.l2d l1)), .second, .val (.double (FP.l2d (lo + (2 : Int64)))), .second] [(.int (lcmpW rq (0 : Int64)))]))
    generalize h_l2 : (lo + (2 : Int64)) = l2
    show ownFin _ _ _ _ _ (T14.setTop (mkF m 118 #[.val (.int p1), .val (.int p2), .val (.int p3), .val (.int bv), .val (.int wv), .val (.int (1 : Int32)), .val (.int dv), .val (.long mq), .second, .val (.long rq), .second, .val (.long ((own_t wv (1 : Int32)).toInt64)), .second, .val (.double r), .second, .val (.double (FP.dadd r r)), .second, .val (.long lo), .second, .val (.double (FP.l2d lo)), .second, .val (.double (FP.l2d l1)), .second, .val (.double (FP.l2d l2)), .second] [(.int (lcmpW rq (0 : Int64)))]))
    rw [h_l1] at hm1
    rw [h_l2] at hm2
    have hi6 : bv.toInt64.toInt = (i : Int) := by rw [Int32.toInt_toInt64]; exact hi
    have hj6 : (dv.toInt64).toInt = (j : Int) := by rw [Int32.toInt_toInt64]; exact hj
    have h2r := own_twice hrq (Nat.lt_of_le_of_lt (Nat.mod_le i j) i1)
    by_cases hc15 : rq = (0 : Int64)
    case pos =>
      have hc15I : ((i % j : Nat) : Int) = 0 := (own_eql hrq (by decide)).mp hc15
      refine ownVia (fun _ k => XS.ifNo X14.here hx rfl (hb hby at_118) rfl ((if0 _ _).trans (teq ((lw_eq _ _).mpr hc15)).2) k) ?_
      show ownFin _ _ _ _ _ (T14.setTop (mkF m 121 #[.val (.int p1), .val (.int p2), .val (.int p3), .val (.int bv), .val (.int wv), .val (.int (1 : Int32)), .val (.int dv), .val (.long mq), .second, .val (.long rq), .second, .val (.long ((own_t wv (1 : Int32)).toInt64)), .second, .val (.double r), .second, .val (.double (FP.dadd r r)), .second, .val (.long lo), .second, .val (.double (FP.l2d lo)), .second, .val (.double (FP.l2d l1)), .second, .val (.double (FP.l2d l2)), .second] []))
      refine ownVia (fun _ k => XS.dload X14.here hx rfl (hb hby at_121) rfl k) ?_
      show ownFin _ _ _ _ _ (T14.setTop (mkF m 123 #[.val (.int p1), .val (.int p2), .val (.int p3), .val (.int bv), .val (.int wv), .val (.int (1 : Int32)), .val (.int dv), .val (.long mq), .second, .val (.long rq), .second, .val (.long ((own_t wv (1 : Int32)).toInt64)), .second, .val (.double r), .second, .val (.double (FP.dadd r r)), .second, .val (.long lo), .second, .val (.double (FP.l2d lo)), .second, .val (.double (FP.l2d l1)), .second, .val (.double (FP.l2d l2)), .second] [(.double (FP.dadd r r))]))
      refine ownVia (fun _ k => XS.dload X14.here hx rfl (hb hby at_123) rfl k) ?_
      show ownFin _ _ _ _ _ (T14.setTop (mkF m 125 #[.val (.int p1), .val (.int p2), .val (.int p3), .val (.int bv), .val (.int wv), .val (.int (1 : Int32)), .val (.int dv), .val (.long mq), .second, .val (.long rq), .second, .val (.long ((own_t wv (1 : Int32)).toInt64)), .second, .val (.double r), .second, .val (.double (FP.dadd r r)), .second, .val (.long lo), .second, .val (.double (FP.l2d lo)), .second, .val (.double (FP.l2d l1)), .second, .val (.double (FP.l2d l2)), .second] [(.double (FP.l2d lo)), (.double (FP.dadd r r))]))
      refine ownVia (fun _ k => XS.dcmpS X14.here hx rfl (hb hby at_125) rfl rfl k) ?_
      show ownFin _ _ _ _ _ (T14.setTop (mkF m 126 #[.val (.int p1), .val (.int p2), .val (.int p3), .val (.int bv), .val (.int wv), .val (.int (1 : Int32)), .val (.int dv), .val (.long mq), .second, .val (.long rq), .second, .val (.long ((own_t wv (1 : Int32)).toInt64)), .second, .val (.double r), .second, .val (.double (FP.dadd r r)), .second, .val (.long lo), .second, .val (.double (FP.l2d lo)), .second, .val (.double (FP.l2d l1)), .second, .val (.double (FP.l2d l2)), .second] [(.int (cmpValue (FP.dcmp (FP.dadd r r) (FP.l2d lo)) .l))]))
      refine ownVia (fun _ k => XS.ifNo X14.here hx rfl (hb hby at_126) rfl ((if0 _ _).trans (teq (own_cv0 (own_c0 hi6 hj6 hu i1 j1 j2 u1 er (by omega) hlo))).2) k) ?_
      show ownFin _ _ _ _ _ (T14.setTop (mkF m 129 #[.val (.int p1), .val (.int p2), .val (.int p3), .val (.int bv), .val (.int wv), .val (.int (1 : Int32)), .val (.int dv), .val (.long mq), .second, .val (.long rq), .second, .val (.long ((own_t wv (1 : Int32)).toInt64)), .second, .val (.double r), .second, .val (.double (FP.dadd r r)), .second, .val (.long lo), .second, .val (.double (FP.l2d lo)), .second, .val (.double (FP.l2d l1)), .second, .val (.double (FP.l2d l2)), .second] []))
      refine ownVia (fun _ k => XS.iconst X14.here hx rfl (hb hby at_129) k) ?_
      show ownFin _ _ _ _ _ (T14.setTop (mkF m 130 #[.val (.int p1), .val (.int p2), .val (.int p3), .val (.int bv), .val (.int wv), .val (.int (1 : Int32)), .val (.int dv), .val (.long mq), .second, .val (.long rq), .second, .val (.long ((own_t wv (1 : Int32)).toInt64)), .second, .val (.double r), .second, .val (.double (FP.dadd r r)), .second, .val (.long lo), .second, .val (.double (FP.l2d lo)), .second, .val (.double (FP.l2d l1)), .second, .val (.double (FP.l2d l2)), .second] [(.int (1 : Int32))]))
      refine ownVia (fun _ k => XS.goto X14.here hx rfl (pc0 := 130) (pc' := 134) rfl (hb hby at_130) (by decide) (by decide) k) ?_
      show ownFin _ _ _ _ _ (T14.setTop (mkF m 134 #[.val (.int p1), .val (.int p2), .val (.int p3), .val (.int bv), .val (.int wv), .val (.int (1 : Int32)), .val (.int dv), .val (.long mq), .second, .val (.long rq), .second, .val (.long ((own_t wv (1 : Int32)).toInt64)), .second, .val (.double r), .second, .val (.double (FP.dadd r r)), .second, .val (.long lo), .second, .val (.double (FP.l2d lo)), .second, .val (.double (FP.l2d l1)), .second, .val (.double (FP.l2d l2)), .second] [(.int (1 : Int32))]))
      refine ownRetZ X14 hx hlk hret (hb hby at_134) (by decide) (by decide) (Or.inr rfl) ?_
      show (Q_own_law Z p1 p2 p3 h0 n0 ) (some (.int (1 : Int32))) T14.heap _
      rw [e14]
      exact ⟨rfl, N14⟩
    case neg =>
      have hc15I : ¬ ((i % j : Nat) : Int) = 0 := fun q => hc15 ((own_eql hrq (by decide)).mpr q)
      refine ownVia (fun _ k => XS.ifYes X14.here hx rfl (pc0 := 118) (pc' := 135) rfl (hb hby at_118) rfl ((if0 _ _).trans (feq (fun q => hc15 ((lw_eq _ _).mp q))).2) (by decide) (by decide) k) ?_
      show ownFin _ _ _ _ _ (T14.setTop (mkF m 135 #[.val (.int p1), .val (.int p2), .val (.int p3), .val (.int bv), .val (.int wv), .val (.int (1 : Int32)), .val (.int dv), .val (.long mq), .second, .val (.long rq), .second, .val (.long ((own_t wv (1 : Int32)).toInt64)), .second, .val (.double r), .second, .val (.double (FP.dadd r r)), .second, .val (.long lo), .second, .val (.double (FP.l2d lo)), .second, .val (.double (FP.l2d l1)), .second, .val (.double (FP.l2d l2)), .second] []))
      refine ownVia (fun _ k => X14.ldc2Long hx hown (mvT hZ (hw _ (List.mem_of_getElem? (i := 5) rfl))) (g := (mkF m 135 #[.val (.int p1), .val (.int p2), .val (.int p3), .val (.int bv), .val (.int wv), .val (.int (1 : Int32)), .val (.int dv), .val (.long mq), .second, .val (.long rq), .second, .val (.long ((own_t wv (1 : Int32)).toInt64)), .second, .val (.double r), .second, .val (.double (FP.dadd r r)), .second, .val (.long lo), .second, .val (.double (FP.l2d lo)), .second, .val (.double (FP.l2d l1)), .second, .val (.double (FP.l2d l2)), .second] [])) rfl (hb hby at_135) _ k) ?_
      show ownFin _ _ _ _ _ (T14.setTop (mkF m 138 #[.val (.int p1), .val (.int p2), .val (.int p3), .val (.int bv), .val (.int wv), .val (.int (1 : Int32)), .val (.int dv), .val (.long mq), .second, .val (.long rq), .second, .val (.long ((own_t wv (1 : Int32)).toInt64)), .second, .val (.double r), .second, .val (.double (FP.dadd r r)), .second, .val (.long lo), .second, .val (.double (FP.l2d lo)), .second, .val (.double (FP.l2d l1)), .second, .val (.double (FP.l2d l2)), .second] [(.long (2 : Int64))]))
      refine ownVia (fun _ k => XS.lload X14.here hx rfl (hb hby at_138) rfl k) ?_
      show ownFin _ _ _ _ _ (T14.setTop (mkF m 140 #[.val (.int p1), .val (.int p2), .val (.int p3), .val (.int bv), .val (.int wv), .val (.int (1 : Int32)), .val (.int dv), .val (.long mq), .second, .val (.long rq), .second, .val (.long ((own_t wv (1 : Int32)).toInt64)), .second, .val (.double r), .second, .val (.double (FP.dadd r r)), .second, .val (.long lo), .second, .val (.double (FP.l2d lo)), .second, .val (.double (FP.l2d l1)), .second, .val (.double (FP.l2d l2)), .second] [(.long rq), (.long (2 : Int64))]))
      refine ownVia (fun _ k => XS.lmul X14.here hx rfl (hb hby at_140) rfl k) ?_
      show ownFin _ _ _ _ _ (T14.setTop (mkF m 141 #[.val (.int p1), .val (.int p2), .val (.int p3), .val (.int bv), .val (.int wv), .val (.int (1 : Int32)), .val (.int dv), .val (.long mq), .second, .val (.long rq), .second, .val (.long ((own_t wv (1 : Int32)).toInt64)), .second, .val (.double r), .second, .val (.double (FP.dadd r r)), .second, .val (.long lo), .second, .val (.double (FP.l2d lo)), .second, .val (.double (FP.l2d l1)), .second, .val (.double (FP.l2d l2)), .second] [(.long ((2 : Int64) * rq))]))
      refine ownVia (fun _ k => XS.iload X14.here hx rfl (hb hby at_141) rfl k) ?_
      show ownFin _ _ _ _ _ (T14.setTop (mkF m 143 #[.val (.int p1), .val (.int p2), .val (.int p3), .val (.int bv), .val (.int wv), .val (.int (1 : Int32)), .val (.int dv), .val (.long mq), .second, .val (.long rq), .second, .val (.long ((own_t wv (1 : Int32)).toInt64)), .second, .val (.double r), .second, .val (.double (FP.dadd r r)), .second, .val (.long lo), .second, .val (.double (FP.l2d lo)), .second, .val (.double (FP.l2d l1)), .second, .val (.double (FP.l2d l2)), .second] [(.int dv), (.long ((2 : Int64) * rq))]))
      refine ownVia (fun _ k => XS.i2l X14.here hx rfl (hb hby at_143) rfl k) ?_
      show ownFin _ _ _ _ _ (T14.setTop (mkF m 144 #[.val (.int p1), .val (.int p2), .val (.int p3), .val (.int bv), .val (.int wv), .val (.int (1 : Int32)), .val (.int dv), .val (.long mq), .second, .val (.long rq), .second, .val (.long ((own_t wv (1 : Int32)).toInt64)), .second, .val (.double r), .second, .val (.double (FP.dadd r r)), .second, .val (.long lo), .second, .val (.double (FP.l2d lo)), .second, .val (.double (FP.l2d l1)), .second, .val (.double (FP.l2d l2)), .second] [(.long (dv.toInt64)), (.long ((2 : Int64) * rq))]))
      refine ownVia (fun _ k => XS.lcmp X14.here hx rfl (hb hby at_144) rfl k) ?_
      show ownFin _ _ _ _ _ (T14.setTop (mkF m 145 #[.val (.int p1), .val (.int p2), .val (.int p3), .val (.int bv), .val (.int wv), .val (.int (1 : Int32)), .val (.int dv), .val (.long mq), .second, .val (.long rq), .second, .val (.long ((own_t wv (1 : Int32)).toInt64)), .second, .val (.double r), .second, .val (.double (FP.dadd r r)), .second, .val (.long lo), .second, .val (.double (FP.l2d lo)), .second, .val (.double (FP.l2d l1)), .second, .val (.double (FP.l2d l2)), .second] [(.int (lcmpW ((2 : Int64) * rq) (dv.toInt64)))]))
      by_cases hc16 : ((2 : Int64) * rq) < (dv.toInt64)
      case pos =>
        have hc16I : ((2 * (i % j) : Nat) : Int) < (j : Int) := (own_ltl h2r hj6).mp hc16
        refine ownVia (fun _ k => XS.ifNo X14.here hx rfl (hb hby at_145) rfl ((if0 _ _).trans (tlt ((lw_lt _ _).mpr hc16)).2.1) k) ?_
        show ownFin _ _ _ _ _ (T14.setTop (mkF m 148 #[.val (.int p1), .val (.int p2), .val (.int p3), .val (.int bv), .val (.int wv), .val (.int (1 : Int32)), .val (.int dv), .val (.long mq), .second, .val (.long rq), .second, .val (.long ((own_t wv (1 : Int32)).toInt64)), .second, .val (.double r), .second, .val (.double (FP.dadd r r)), .second, .val (.long lo), .second, .val (.double (FP.l2d lo)), .second, .val (.double (FP.l2d l1)), .second, .val (.double (FP.l2d l2)), .second] []))
        have hq := own_clo hi6 hj6 hu i1 j1 j2 u1 er (by omega) (by omega) hlo hm1
        refine ownVia (fun _ k => XS.dload X14.here hx rfl (hb hby at_148) rfl k) ?_
        show ownFin _ _ _ _ _ (T14.setTop (mkF m 150 #[.val (.int p1), .val (.int p2), .val (.int p3), .val (.int bv), .val (.int wv), .val (.int (1 : Int32)), .val (.int dv), .val (.long mq), .second, .val (.long rq), .second, .val (.long ((own_t wv (1 : Int32)).toInt64)), .second, .val (.double r), .second, .val (.double (FP.dadd r r)), .second, .val (.long lo), .second, .val (.double (FP.l2d lo)), .second, .val (.double (FP.l2d l1)), .second, .val (.double (FP.l2d l2)), .second] [(.double (FP.l2d lo))]))
        refine ownVia (fun _ k => XS.dload X14.here hx rfl (hb hby at_150) rfl k) ?_
        show ownFin _ _ _ _ _ (T14.setTop (mkF m 152 #[.val (.int p1), .val (.int p2), .val (.int p3), .val (.int bv), .val (.int wv), .val (.int (1 : Int32)), .val (.int dv), .val (.long mq), .second, .val (.long rq), .second, .val (.long ((own_t wv (1 : Int32)).toInt64)), .second, .val (.double r), .second, .val (.double (FP.dadd r r)), .second, .val (.long lo), .second, .val (.double (FP.l2d lo)), .second, .val (.double (FP.l2d l1)), .second, .val (.double (FP.l2d l2)), .second] [(.double (FP.dadd r r)), (.double (FP.l2d lo))]))
        refine ownVia (fun _ k => XS.dcmpS X14.here hx rfl (hb hby at_152) rfl rfl k) ?_
        show ownFin _ _ _ _ _ (T14.setTop (mkF m 153 #[.val (.int p1), .val (.int p2), .val (.int p3), .val (.int bv), .val (.int wv), .val (.int (1 : Int32)), .val (.int dv), .val (.long mq), .second, .val (.long rq), .second, .val (.long ((own_t wv (1 : Int32)).toInt64)), .second, .val (.double r), .second, .val (.double (FP.dadd r r)), .second, .val (.long lo), .second, .val (.double (FP.l2d lo)), .second, .val (.double (FP.l2d l1)), .second, .val (.double (FP.l2d l2)), .second] [(.int (cmpValue (FP.dcmp (FP.l2d lo) (FP.dadd r r)) .g))]))
        refine ownVia (fun _ k => XS.ifNo X14.here hx rfl (hb hby at_153) rfl ((if0 _ _).trans (tlt (own_cv1 hq.1)).2.1) k) ?_
        show ownFin _ _ _ _ _ (T14.setTop (mkF m 156 #[.val (.int p1), .val (.int p2), .val (.int p3), .val (.int bv), .val (.int wv), .val (.int (1 : Int32)), .val (.int dv), .val (.long mq), .second, .val (.long rq), .second, .val (.long ((own_t wv (1 : Int32)).toInt64)), .second, .val (.double r), .second, .val (.double (FP.dadd r r)), .second, .val (.long lo), .second, .val (.double (FP.l2d lo)), .second, .val (.double (FP.l2d l1)), .second, .val (.double (FP.l2d l2)), .second] []))
        refine ownVia (fun _ k => XS.dload X14.here hx rfl (hb hby at_156) rfl k) ?_
        show ownFin _ _ _ _ _ (T14.setTop (mkF m 158 #[.val (.int p1), .val (.int p2), .val (.int p3), .val (.int bv), .val (.int wv), .val (.int (1 : Int32)), .val (.int dv), .val (.long mq), .second, .val (.long rq), .second, .val (.long ((own_t wv (1 : Int32)).toInt64)), .second, .val (.double r), .second, .val (.double (FP.dadd r r)), .second, .val (.long lo), .second, .val (.double (FP.l2d lo)), .second, .val (.double (FP.l2d l1)), .second, .val (.double (FP.l2d l2)), .second] [(.double (FP.dadd r r))]))
        refine ownVia (fun _ k => XS.dload X14.here hx rfl (hb hby at_158) rfl k) ?_
        show ownFin _ _ _ _ _ (T14.setTop (mkF m 160 #[.val (.int p1), .val (.int p2), .val (.int p3), .val (.int bv), .val (.int wv), .val (.int (1 : Int32)), .val (.int dv), .val (.long mq), .second, .val (.long rq), .second, .val (.long ((own_t wv (1 : Int32)).toInt64)), .second, .val (.double r), .second, .val (.double (FP.dadd r r)), .second, .val (.long lo), .second, .val (.double (FP.l2d lo)), .second, .val (.double (FP.l2d l1)), .second, .val (.double (FP.l2d l2)), .second] [(.double (FP.l2d l1)), (.double (FP.dadd r r))]))
        refine ownVia (fun _ k => XS.dcmpS X14.here hx rfl (hb hby at_160) rfl rfl k) ?_
        show ownFin _ _ _ _ _ (T14.setTop (mkF m 161 #[.val (.int p1), .val (.int p2), .val (.int p3), .val (.int bv), .val (.int wv), .val (.int (1 : Int32)), .val (.int dv), .val (.long mq), .second, .val (.long rq), .second, .val (.long ((own_t wv (1 : Int32)).toInt64)), .second, .val (.double r), .second, .val (.double (FP.dadd r r)), .second, .val (.long lo), .second, .val (.double (FP.l2d lo)), .second, .val (.double (FP.l2d l1)), .second, .val (.double (FP.l2d l2)), .second] [(.int (cmpValue (FP.dcmp (FP.dadd r r) (FP.l2d l1)) .g))]))
        refine ownVia (fun _ k => XS.ifNo X14.here hx rfl (hb hby at_161) rfl ((if0 _ _).trans (tlt (own_cv1 hq.2)).2.1) k) ?_
        show ownFin _ _ _ _ _ (T14.setTop (mkF m 164 #[.val (.int p1), .val (.int p2), .val (.int p3), .val (.int bv), .val (.int wv), .val (.int (1 : Int32)), .val (.int dv), .val (.long mq), .second, .val (.long rq), .second, .val (.long ((own_t wv (1 : Int32)).toInt64)), .second, .val (.double r), .second, .val (.double (FP.dadd r r)), .second, .val (.long lo), .second, .val (.double (FP.l2d lo)), .second, .val (.double (FP.l2d l1)), .second, .val (.double (FP.l2d l2)), .second] []))
        refine ownVia (fun _ k => XS.iconst X14.here hx rfl (hb hby at_164) k) ?_
        show ownFin _ _ _ _ _ (T14.setTop (mkF m 165 #[.val (.int p1), .val (.int p2), .val (.int p3), .val (.int bv), .val (.int wv), .val (.int (1 : Int32)), .val (.int dv), .val (.long mq), .second, .val (.long rq), .second, .val (.long ((own_t wv (1 : Int32)).toInt64)), .second, .val (.double r), .second, .val (.double (FP.dadd r r)), .second, .val (.long lo), .second, .val (.double (FP.l2d lo)), .second, .val (.double (FP.l2d l1)), .second, .val (.double (FP.l2d l2)), .second] [(.int (1 : Int32))]))
        refine ownVia (fun _ k => XS.goto X14.here hx rfl (pc0 := 165) (pc' := 169) rfl (hb hby at_165) (by decide) (by decide) k) ?_
        show ownFin _ _ _ _ _ (T14.setTop (mkF m 169 #[.val (.int p1), .val (.int p2), .val (.int p3), .val (.int bv), .val (.int wv), .val (.int (1 : Int32)), .val (.int dv), .val (.long mq), .second, .val (.long rq), .second, .val (.long ((own_t wv (1 : Int32)).toInt64)), .second, .val (.double r), .second, .val (.double (FP.dadd r r)), .second, .val (.long lo), .second, .val (.double (FP.l2d lo)), .second, .val (.double (FP.l2d l1)), .second, .val (.double (FP.l2d l2)), .second] [(.int (1 : Int32))]))
        refine ownRetZ X14 hx hlk hret (hb hby at_169) (by decide) (by decide) (Or.inr rfl) ?_
        show (Q_own_law Z p1 p2 p3 h0 n0 ) (some (.int (1 : Int32))) T14.heap _
        rw [e14]
        exact ⟨rfl, N14⟩
      case neg =>
        have hc16I : ¬ ((2 * (i % j) : Nat) : Int) < (j : Int) := fun q => hc16 ((own_ltl h2r hj6).mpr q)
        refine ownVia (fun _ k => XS.ifYes X14.here hx rfl (pc0 := 145) (pc' := 170) rfl (hb hby at_145) rfl ((if0 _ _).trans (flt (fun q => hc16 ((lw_lt _ _).mp q))).2.1) (by decide) (by decide) k) ?_
        show ownFin _ _ _ _ _ (T14.setTop (mkF m 170 #[.val (.int p1), .val (.int p2), .val (.int p3), .val (.int bv), .val (.int wv), .val (.int (1 : Int32)), .val (.int dv), .val (.long mq), .second, .val (.long rq), .second, .val (.long ((own_t wv (1 : Int32)).toInt64)), .second, .val (.double r), .second, .val (.double (FP.dadd r r)), .second, .val (.long lo), .second, .val (.double (FP.l2d lo)), .second, .val (.double (FP.l2d l1)), .second, .val (.double (FP.l2d l2)), .second] []))
        refine ownVia (fun _ k => X14.ldc2Long hx hown (mvT hZ (hw _ (List.mem_of_getElem? (i := 5) rfl))) (g := (mkF m 170 #[.val (.int p1), .val (.int p2), .val (.int p3), .val (.int bv), .val (.int wv), .val (.int (1 : Int32)), .val (.int dv), .val (.long mq), .second, .val (.long rq), .second, .val (.long ((own_t wv (1 : Int32)).toInt64)), .second, .val (.double r), .second, .val (.double (FP.dadd r r)), .second, .val (.long lo), .second, .val (.double (FP.l2d lo)), .second, .val (.double (FP.l2d l1)), .second, .val (.double (FP.l2d l2)), .second] [])) rfl (hb hby at_170) _ k) ?_
        show ownFin _ _ _ _ _ (T14.setTop (mkF m 173 #[.val (.int p1), .val (.int p2), .val (.int p3), .val (.int bv), .val (.int wv), .val (.int (1 : Int32)), .val (.int dv), .val (.long mq), .second, .val (.long rq), .second, .val (.long ((own_t wv (1 : Int32)).toInt64)), .second, .val (.double r), .second, .val (.double (FP.dadd r r)), .second, .val (.long lo), .second, .val (.double (FP.l2d lo)), .second, .val (.double (FP.l2d l1)), .second, .val (.double (FP.l2d l2)), .second] [(.long (2 : Int64))]))
        refine ownVia (fun _ k => XS.lload X14.here hx rfl (hb hby at_173) rfl k) ?_
        show ownFin _ _ _ _ _ (T14.setTop (mkF m 175 #[.val (.int p1), .val (.int p2), .val (.int p3), .val (.int bv), .val (.int wv), .val (.int (1 : Int32)), .val (.int dv), .val (.long mq), .second, .val (.long rq), .second, .val (.long ((own_t wv (1 : Int32)).toInt64)), .second, .val (.double r), .second, .val (.double (FP.dadd r r)), .second, .val (.long lo), .second, .val (.double (FP.l2d lo)), .second, .val (.double (FP.l2d l1)), .second, .val (.double (FP.l2d l2)), .second] [(.long rq), (.long (2 : Int64))]))
        refine ownVia (fun _ k => XS.lmul X14.here hx rfl (hb hby at_175) rfl k) ?_
        show ownFin _ _ _ _ _ (T14.setTop (mkF m 176 #[.val (.int p1), .val (.int p2), .val (.int p3), .val (.int bv), .val (.int wv), .val (.int (1 : Int32)), .val (.int dv), .val (.long mq), .second, .val (.long rq), .second, .val (.long ((own_t wv (1 : Int32)).toInt64)), .second, .val (.double r), .second, .val (.double (FP.dadd r r)), .second, .val (.long lo), .second, .val (.double (FP.l2d lo)), .second, .val (.double (FP.l2d l1)), .second, .val (.double (FP.l2d l2)), .second] [(.long ((2 : Int64) * rq))]))
        refine ownVia (fun _ k => XS.iload X14.here hx rfl (hb hby at_176) rfl k) ?_
        show ownFin _ _ _ _ _ (T14.setTop (mkF m 178 #[.val (.int p1), .val (.int p2), .val (.int p3), .val (.int bv), .val (.int wv), .val (.int (1 : Int32)), .val (.int dv), .val (.long mq), .second, .val (.long rq), .second, .val (.long ((own_t wv (1 : Int32)).toInt64)), .second, .val (.double r), .second, .val (.double (FP.dadd r r)), .second, .val (.long lo), .second, .val (.double (FP.l2d lo)), .second, .val (.double (FP.l2d l1)), .second, .val (.double (FP.l2d l2)), .second] [(.int dv), (.long ((2 : Int64) * rq))]))
        refine ownVia (fun _ k => XS.i2l X14.here hx rfl (hb hby at_178) rfl k) ?_
        show ownFin _ _ _ _ _ (T14.setTop (mkF m 179 #[.val (.int p1), .val (.int p2), .val (.int p3), .val (.int bv), .val (.int wv), .val (.int (1 : Int32)), .val (.int dv), .val (.long mq), .second, .val (.long rq), .second, .val (.long ((own_t wv (1 : Int32)).toInt64)), .second, .val (.double r), .second, .val (.double (FP.dadd r r)), .second, .val (.long lo), .second, .val (.double (FP.l2d lo)), .second, .val (.double (FP.l2d l1)), .second, .val (.double (FP.l2d l2)), .second] [(.long (dv.toInt64)), (.long ((2 : Int64) * rq))]))
        refine ownVia (fun _ k => XS.lcmp X14.here hx rfl (hb hby at_179) rfl k) ?_
        show ownFin _ _ _ _ _ (T14.setTop (mkF m 180 #[.val (.int p1), .val (.int p2), .val (.int p3), .val (.int bv), .val (.int wv), .val (.int (1 : Int32)), .val (.int dv), .val (.long mq), .second, .val (.long rq), .second, .val (.long ((own_t wv (1 : Int32)).toInt64)), .second, .val (.double r), .second, .val (.double (FP.dadd r r)), .second, .val (.long lo), .second, .val (.double (FP.l2d lo)), .second, .val (.double (FP.l2d l1)), .second, .val (.double (FP.l2d l2)), .second] [(.int (lcmpW ((2 : Int64) * rq) (dv.toInt64)))]))
        by_cases hc17 : ((2 : Int64) * rq) = (dv.toInt64)
        case pos =>
          have hc17I : ((2 * (i % j) : Nat) : Int) = (j : Int) := (own_eql h2r hj6).mp hc17
          refine ownVia (fun _ k => XS.ifNo X14.here hx rfl (hb hby at_180) rfl ((if0 _ _).trans (teq ((lw_eq _ _).mpr hc17)).2) k) ?_
          show ownFin _ _ _ _ _ (T14.setTop (mkF m 183 #[.val (.int p1), .val (.int p2), .val (.int p3), .val (.int bv), .val (.int wv), .val (.int (1 : Int32)), .val (.int dv), .val (.long mq), .second, .val (.long rq), .second, .val (.long ((own_t wv (1 : Int32)).toInt64)), .second, .val (.double r), .second, .val (.double (FP.dadd r r)), .second, .val (.long lo), .second, .val (.double (FP.l2d lo)), .second, .val (.double (FP.l2d l1)), .second, .val (.double (FP.l2d l2)), .second] []))
          refine ownVia (fun _ k => XS.dload X14.here hx rfl (hb hby at_183) rfl k) ?_
          show ownFin _ _ _ _ _ (T14.setTop (mkF m 185 #[.val (.int p1), .val (.int p2), .val (.int p3), .val (.int bv), .val (.int wv), .val (.int (1 : Int32)), .val (.int dv), .val (.long mq), .second, .val (.long rq), .second, .val (.long ((own_t wv (1 : Int32)).toInt64)), .second, .val (.double r), .second, .val (.double (FP.dadd r r)), .second, .val (.long lo), .second, .val (.double (FP.l2d lo)), .second, .val (.double (FP.l2d l1)), .second, .val (.double (FP.l2d l2)), .second] [(.double (FP.dadd r r))]))
          refine ownVia (fun _ k => XS.dload X14.here hx rfl (hb hby at_185) rfl k) ?_
          show ownFin _ _ _ _ _ (T14.setTop (mkF m 187 #[.val (.int p1), .val (.int p2), .val (.int p3), .val (.int bv), .val (.int wv), .val (.int (1 : Int32)), .val (.int dv), .val (.long mq), .second, .val (.long rq), .second, .val (.long ((own_t wv (1 : Int32)).toInt64)), .second, .val (.double r), .second, .val (.double (FP.dadd r r)), .second, .val (.long lo), .second, .val (.double (FP.l2d lo)), .second, .val (.double (FP.l2d l1)), .second, .val (.double (FP.l2d l2)), .second] [(.double (FP.l2d l1)), (.double (FP.dadd r r))]))
          refine ownVia (fun _ k => XS.dcmpS X14.here hx rfl (hb hby at_187) rfl rfl k) ?_
          show ownFin _ _ _ _ _ (T14.setTop (mkF m 188 #[.val (.int p1), .val (.int p2), .val (.int p3), .val (.int bv), .val (.int wv), .val (.int (1 : Int32)), .val (.int dv), .val (.long mq), .second, .val (.long rq), .second, .val (.long ((own_t wv (1 : Int32)).toInt64)), .second, .val (.double r), .second, .val (.double (FP.dadd r r)), .second, .val (.long lo), .second, .val (.double (FP.l2d lo)), .second, .val (.double (FP.l2d l1)), .second, .val (.double (FP.l2d l2)), .second] [(.int (cmpValue (FP.dcmp (FP.dadd r r) (FP.l2d l1)) .l))]))
          refine ownVia (fun _ k => XS.ifNo X14.here hx rfl (hb hby at_188) rfl ((if0 _ _).trans (teq (own_cv0 (own_c1 hi6 hj6 hu i1 j1 j2 u1 er (by omega) hm1))).2) k) ?_
          show ownFin _ _ _ _ _ (T14.setTop (mkF m 191 #[.val (.int p1), .val (.int p2), .val (.int p3), .val (.int bv), .val (.int wv), .val (.int (1 : Int32)), .val (.int dv), .val (.long mq), .second, .val (.long rq), .second, .val (.long ((own_t wv (1 : Int32)).toInt64)), .second, .val (.double r), .second, .val (.double (FP.dadd r r)), .second, .val (.long lo), .second, .val (.double (FP.l2d lo)), .second, .val (.double (FP.l2d l1)), .second, .val (.double (FP.l2d l2)), .second] []))
          refine ownVia (fun _ k => XS.iconst X14.here hx rfl (hb hby at_191) k) ?_
          show ownFin _ _ _ _ _ (T14.setTop (mkF m 192 #[.val (.int p1), .val (.int p2), .val (.int p3), .val (.int bv), .val (.int wv), .val (.int (1 : Int32)), .val (.int dv), .val (.long mq), .second, .val (.long rq), .second, .val (.long ((own_t wv (1 : Int32)).toInt64)), .second, .val (.double r), .second, .val (.double (FP.dadd r r)), .second, .val (.long lo), .second, .val (.double (FP.l2d lo)), .second, .val (.double (FP.l2d l1)), .second, .val (.double (FP.l2d l2)), .second] [(.int (1 : Int32))]))
          refine ownVia (fun _ k => XS.goto X14.here hx rfl (pc0 := 192) (pc' := 196) rfl (hb hby at_192) (by decide) (by decide) k) ?_
          show ownFin _ _ _ _ _ (T14.setTop (mkF m 196 #[.val (.int p1), .val (.int p2), .val (.int p3), .val (.int bv), .val (.int wv), .val (.int (1 : Int32)), .val (.int dv), .val (.long mq), .second, .val (.long rq), .second, .val (.long ((own_t wv (1 : Int32)).toInt64)), .second, .val (.double r), .second, .val (.double (FP.dadd r r)), .second, .val (.long lo), .second, .val (.double (FP.l2d lo)), .second, .val (.double (FP.l2d l1)), .second, .val (.double (FP.l2d l2)), .second] [(.int (1 : Int32))]))
          refine ownRetZ X14 hx hlk hret (hb hby at_196) (by decide) (by decide) (Or.inr rfl) ?_
          show (Q_own_law Z p1 p2 p3 h0 n0 ) (some (.int (1 : Int32))) T14.heap _
          rw [e14]
          exact ⟨rfl, N14⟩
        case neg =>
          have hc17I : ¬ ((2 * (i % j) : Nat) : Int) = (j : Int) := fun q => hc17 ((own_eql h2r hj6).mpr q)
          refine ownVia (fun _ k => XS.ifYes X14.here hx rfl (pc0 := 180) (pc' := 197) rfl (hb hby at_180) rfl ((if0 _ _).trans (feq (fun q => hc17 ((lw_eq _ _).mp q))).2) (by decide) (by decide) k) ?_
          show ownFin _ _ _ _ _ (T14.setTop (mkF m 197 #[.val (.int p1), .val (.int p2), .val (.int p3), .val (.int bv), .val (.int wv), .val (.int (1 : Int32)), .val (.int dv), .val (.long mq), .second, .val (.long rq), .second, .val (.long ((own_t wv (1 : Int32)).toInt64)), .second, .val (.double r), .second, .val (.double (FP.dadd r r)), .second, .val (.long lo), .second, .val (.double (FP.l2d lo)), .second, .val (.double (FP.l2d l1)), .second, .val (.double (FP.l2d l2)), .second] []))
          have hq := own_chi hi6 hj6 hu i1 j1 j2 u1 er (by omega) hm1 hm2
          refine ownVia (fun _ k => XS.dload X14.here hx rfl (hb hby at_197) rfl k) ?_
          show ownFin _ _ _ _ _ (T14.setTop (mkF m 199 #[.val (.int p1), .val (.int p2), .val (.int p3), .val (.int bv), .val (.int wv), .val (.int (1 : Int32)), .val (.int dv), .val (.long mq), .second, .val (.long rq), .second, .val (.long ((own_t wv (1 : Int32)).toInt64)), .second, .val (.double r), .second, .val (.double (FP.dadd r r)), .second, .val (.long lo), .second, .val (.double (FP.l2d lo)), .second, .val (.double (FP.l2d l1)), .second, .val (.double (FP.l2d l2)), .second] [(.double (FP.l2d l1))]))
          refine ownVia (fun _ k => XS.dload X14.here hx rfl (hb hby at_199) rfl k) ?_
          show ownFin _ _ _ _ _ (T14.setTop (mkF m 201 #[.val (.int p1), .val (.int p2), .val (.int p3), .val (.int bv), .val (.int wv), .val (.int (1 : Int32)), .val (.int dv), .val (.long mq), .second, .val (.long rq), .second, .val (.long ((own_t wv (1 : Int32)).toInt64)), .second, .val (.double r), .second, .val (.double (FP.dadd r r)), .second, .val (.long lo), .second, .val (.double (FP.l2d lo)), .second, .val (.double (FP.l2d l1)), .second, .val (.double (FP.l2d l2)), .second] [(.double (FP.dadd r r)), (.double (FP.l2d l1))]))
          refine ownVia (fun _ k => XS.dcmpS X14.here hx rfl (hb hby at_201) rfl rfl k) ?_
          show ownFin _ _ _ _ _ (T14.setTop (mkF m 202 #[.val (.int p1), .val (.int p2), .val (.int p3), .val (.int bv), .val (.int wv), .val (.int (1 : Int32)), .val (.int dv), .val (.long mq), .second, .val (.long rq), .second, .val (.long ((own_t wv (1 : Int32)).toInt64)), .second, .val (.double r), .second, .val (.double (FP.dadd r r)), .second, .val (.long lo), .second, .val (.double (FP.l2d lo)), .second, .val (.double (FP.l2d l1)), .second, .val (.double (FP.l2d l2)), .second] [(.int (cmpValue (FP.dcmp (FP.l2d l1) (FP.dadd r r)) .g))]))
          refine ownVia (fun _ k => XS.ifNo X14.here hx rfl (hb hby at_202) rfl ((if0 _ _).trans (tlt (own_cv1 hq.1)).2.1) k) ?_
          show ownFin _ _ _ _ _ (T14.setTop (mkF m 205 #[.val (.int p1), .val (.int p2), .val (.int p3), .val (.int bv), .val (.int wv), .val (.int (1 : Int32)), .val (.int dv), .val (.long mq), .second, .val (.long rq), .second, .val (.long ((own_t wv (1 : Int32)).toInt64)), .second, .val (.double r), .second, .val (.double (FP.dadd r r)), .second, .val (.long lo), .second, .val (.double (FP.l2d lo)), .second, .val (.double (FP.l2d l1)), .second, .val (.double (FP.l2d l2)), .second] []))
          refine ownVia (fun _ k => XS.dload X14.here hx rfl (hb hby at_205) rfl k) ?_
          show ownFin _ _ _ _ _ (T14.setTop (mkF m 207 #[.val (.int p1), .val (.int p2), .val (.int p3), .val (.int bv), .val (.int wv), .val (.int (1 : Int32)), .val (.int dv), .val (.long mq), .second, .val (.long rq), .second, .val (.long ((own_t wv (1 : Int32)).toInt64)), .second, .val (.double r), .second, .val (.double (FP.dadd r r)), .second, .val (.long lo), .second, .val (.double (FP.l2d lo)), .second, .val (.double (FP.l2d l1)), .second, .val (.double (FP.l2d l2)), .second] [(.double (FP.dadd r r))]))
          refine ownVia (fun _ k => XS.dload X14.here hx rfl (hb hby at_207) rfl k) ?_
          show ownFin _ _ _ _ _ (T14.setTop (mkF m 209 #[.val (.int p1), .val (.int p2), .val (.int p3), .val (.int bv), .val (.int wv), .val (.int (1 : Int32)), .val (.int dv), .val (.long mq), .second, .val (.long rq), .second, .val (.long ((own_t wv (1 : Int32)).toInt64)), .second, .val (.double r), .second, .val (.double (FP.dadd r r)), .second, .val (.long lo), .second, .val (.double (FP.l2d lo)), .second, .val (.double (FP.l2d l1)), .second, .val (.double (FP.l2d l2)), .second] [(.double (FP.l2d l2)), (.double (FP.dadd r r))]))
          refine ownVia (fun _ k => XS.dcmpS X14.here hx rfl (hb hby at_209) rfl rfl k) ?_
          show ownFin _ _ _ _ _ (T14.setTop (mkF m 210 #[.val (.int p1), .val (.int p2), .val (.int p3), .val (.int bv), .val (.int wv), .val (.int (1 : Int32)), .val (.int dv), .val (.long mq), .second, .val (.long rq), .second, .val (.long ((own_t wv (1 : Int32)).toInt64)), .second, .val (.double r), .second, .val (.double (FP.dadd r r)), .second, .val (.long lo), .second, .val (.double (FP.l2d lo)), .second, .val (.double (FP.l2d l1)), .second, .val (.double (FP.l2d l2)), .second] [(.int (cmpValue (FP.dcmp (FP.dadd r r) (FP.l2d l2)) .g))]))
          refine ownVia (fun _ k => XS.ifNo X14.here hx rfl (hb hby at_210) rfl ((if0 _ _).trans (tlt (own_cv1 hq.2)).2.1) k) ?_
          show ownFin _ _ _ _ _ (T14.setTop (mkF m 213 #[.val (.int p1), .val (.int p2), .val (.int p3), .val (.int bv), .val (.int wv), .val (.int (1 : Int32)), .val (.int dv), .val (.long mq), .second, .val (.long rq), .second, .val (.long ((own_t wv (1 : Int32)).toInt64)), .second, .val (.double r), .second, .val (.double (FP.dadd r r)), .second, .val (.long lo), .second, .val (.double (FP.l2d lo)), .second, .val (.double (FP.l2d l1)), .second, .val (.double (FP.l2d l2)), .second] []))
          refine ownVia (fun _ k => XS.iconst X14.here hx rfl (hb hby at_213) k) ?_
          show ownFin _ _ _ _ _ (T14.setTop (mkF m 214 #[.val (.int p1), .val (.int p2), .val (.int p3), .val (.int bv), .val (.int wv), .val (.int (1 : Int32)), .val (.int dv), .val (.long mq), .second, .val (.long rq), .second, .val (.long ((own_t wv (1 : Int32)).toInt64)), .second, .val (.double r), .second, .val (.double (FP.dadd r r)), .second, .val (.long lo), .second, .val (.double (FP.l2d lo)), .second, .val (.double (FP.l2d l1)), .second, .val (.double (FP.l2d l2)), .second] [(.int (1 : Int32))]))
          refine ownVia (fun _ k => XS.goto X14.here hx rfl (pc0 := 214) (pc' := 218) rfl (hb hby at_214) (by decide) (by decide) k) ?_
          show ownFin _ _ _ _ _ (T14.setTop (mkF m 218 #[.val (.int p1), .val (.int p2), .val (.int p3), .val (.int bv), .val (.int wv), .val (.int (1 : Int32)), .val (.int dv), .val (.long mq), .second, .val (.long rq), .second, .val (.long ((own_t wv (1 : Int32)).toInt64)), .second, .val (.double r), .second, .val (.double (FP.dadd r r)), .second, .val (.long lo), .second, .val (.double (FP.l2d lo)), .second, .val (.double (FP.l2d l1)), .second, .val (.double (FP.l2d l2)), .second] [(.int (1 : Int32))]))
          refine ownRetZ X14 hx hlk hret (hb hby at_218) (by decide) (by decide) (Or.inr rfl) ?_
          show (Q_own_law Z p1 p2 p3 h0 n0 ) (some (.int (1 : Int32))) T14.heap _
          rw [e14]
          exact ⟨rfl, N14⟩
set_option maxRecDepth 65536 in
set_option maxHeartbeats 40000000 in
theorem own_comes {Post : Tables → Env → Array Value → State → Outcome → State → Prop} (hpost : ∀ tb e args s v u, (limb_1_1.after args s (.returned v) u = true ∧ limb_1_2.after args s (.returned v) u = true ∧ True) → FrameEnd s (.returned v) u (Jvm.fieldLocs frame_1_writes args s ++ Jvm.arrayLocs frame_1_arrays args s ++ Jvm.staticLocs frame_1_statics s) 0 0 → Post tb e args s (.returned v) u) :
    ArmFor flags0 classFile x code maxLocals ret World_1 tables_1 room_1 Calls_1 rest_1 Pre_1 Post := by
  intro l hfl _ _ p e ha hc hk s m args below hf hA hF happ hP
  obtain ⟨hcalls, hrest, hpre⟩ := hP
  obtain ⟨-, -, -, hnamed, -, -, -, hat⟩ := (Spec.applies_iff hf).mp happ
  obtain ⟨hg, hn⟩ := and_e (Cond.before_iff.mp (show (Jvm.Cond.and given_1 narrow_1).before args s = true from hpre))
  obtain ⟨hcount, hg0⟩ := and_e hg
  obtain ⟨w0, w1, w2, rfl⟩ : ∃ w0 w1 w2 : Value, args = #[w0, w1, w2] := by
    have hs : args.size = 3 := by simpa [Cond.value, given_1] using hcount
    obtain ⟨L⟩ := args
    match L, hs with
    | [w0, w1, w2], _ => exact ⟨w0, w1, w2, rfl⟩
  have hw := fun d (hd : d ∈ tables_1) => atoms_spec (ws := Jvm.Cond.code x code maxLocals ret :: tables_1) hat d (List.mem_cons_of_mem _ hd)
  have hfit : Fit s := fun {y c} hc i hi => by
    obtain ⟨ha, rfl⟩ := Array.getElem?_eq_some_iff.mp hc
    have q := List.all_eq_true.mp ((Array.all_eq_true_iff_forall_mem.mp hF) _ (Array.getElem_mem ha)) i (List.mem_range.mpr hi)
    simpa [Array.getElem?_eq_getElem hi] using q
  obtain ⟨hq0, hg1⟩ := and_e hg0
  obtain ⟨i0, ei0⟩ := is_v hq0
  obtain rfl : w0 = (.int i0) := Option.some.inj ei0
  obtain ⟨hq1, hg2⟩ := and_e hg1
  obtain ⟨i1, ei1⟩ := is_v hq1
  obtain rfl : w1 = (.int i1) := Option.some.inj ei1
  obtain ⟨i2, ei2⟩ := is_v hg2
  obtain rfl : w2 = (.int i2) := Option.some.inj ei2
  obtain ⟨n, o, h1, h2, h3, _, L, rfl, ⟨rfl, N⟩, hq⟩ := own_law l s _ hw tables_1 i0 i1 i2 s.heap s.heap.size  (Nat.le_refl _)  p e ha hc hk s m _ below hf ((Spec.applies_iff_loose hf).mp happ).1 ⟨rfl, State.Warmed39.refl s, rfl⟩ trivial
  refine ⟨n, _, h1, h2, h3, hpost _ _ _ _ _ _ ⟨Cond.after_iff.mpr rfl, Cond.after_iff.mpr (eq_i res_at (Term.int_eval (1)) rfl), trivial⟩ ⟨hq.1, hq.2.1, (hq.2.2.sift fun y hy => Or.inr (N y hy)).mono (by decide) (by decide)⟩⟩
theorem main_1_1 : Claimed_1_1 := own_comes fun _ _ _ _ _ _ h hF => ⟨h.1, hF⟩
theorem main_1_2 : Claimed_1_2 := own_comes fun _ _ _ _ _ _ h hF => ⟨h.2.1, hF⟩
end Jvm.Pilot.@@N@@
namespace Jvm.Pilot.@@N@@
open Jvm Jvm.ClassFile Sem Op Lib Jvm.Free Jvm.Stand Jvm.Pilot.@@N@@.Jvm.D
/-! MADE BY PROGRAM (witnessworld.py) out of the Statement's table words and the real class files: 9 classes; the members and pool entries that the words name. The judged class is class 1, her method 2. -/
namespace start1
open Jvm.ClassFile
def u (s : String) : CpInfo := .utf8 (stringToUtf16 s)
/-- a pool by its gaps: so many unusable entries, then the entry; so many at the end -/
def gap : Nat → List CpInfo → List CpInfo
  | 0, r => r
  | n + 1, r => .unusable :: gap n r
def poolList (es : List (Nat × CpInfo)) (last : Nat) : List CpInfo := es.foldr (fun e r => gap e.1 (e.2 :: r)) (gap last [])
def pool (es : List (Nat × CpInfo)) (last : Nat) : Array CpInfo := ⟨poolList es last⟩
def fileOf (pool : Array CpInfo) (this : Nat) (attrs : Array Attribute := #[]) (ms : Array MethodInfo := #[]) (fl : Nat := 33) (sup : Nat := 0) (ifs : Array Nat := #[]) (fds : Array FieldInfo := #[]) : ClassFile where
  minorVersion := 0
  majorVersion := 65
  constantPool := pool
  accessFlags := fl
  thisClass := this
  superClass := sup
  interfaces := ifs
  fields := fds
  methods := ms
  attributes := attrs
def plain (name : String) (sup : Option ClassId) : Class where
  name := name
  kind := .ordinary
  loader := none
  accessFlags := 33
  super := sup
  interfaces := #[]
  cf := none
  fields := #[]
  methods := #[]
  instanceTypes := #[]
  staticTypes := #[]
  resolved := #[]
  callSites := []
  init := .initialized
  statics := none
  mirror := none

def pool0 : Array CpInfo := pool [(5, u "<init>"), (0, u "()V"), (1, .class_ 10), (1, u "java/lang/Object")] 113

def k0m0 : Method := { name := "<init>", desc := "()V", sig := { parameters := [], returnType := none }, accessFlags := 1, code := none }
/-- java/lang/Object -/
def k0 : Class := { plain "java/lang/Object" none with
  accessFlags := 33
  interfaces := #[]
  cf := some (fileOf pool0 8 #[] #[{ accessFlags := 1, nameIndex := 5, descriptorIndex := 6, attributes := #[] }] 33 0 #[] #[])
  fields := #[]
  methods := #[k0m0]
  instanceTypes := #[]
  staticTypes := #[]
  resolved := Array.replicate 124 none
  statics := none }

def pool1 : Array CpInfo := pool [(2, .class_ 4), (1, u "java/lang/Object"), (0, u "<init>"), (0, u "()V"), (0, .integer 2147483647), (0, .methodref 9 10), (0, .class_ 11), (0, .nameAndType 12 13), (0, u "com/example/lacuna/lacuna/bls12381/SumOfProductsInterleavedCostPinLaw"), (0, u "tableCost"), (0, u "(I)I"), (0, .methodref 15 16), (0, .class_ 17), (0, .nameAndType 18 19), (0, u "com/example/lacuna/lacuna/bls12381/SumOfProducts"), (0, u "interleavedCost"), (0, u "(IIZ)D"), (0, .long 2), (4, u "law"), (0, u "(III)Z")] 2

def k1m0 : Method := { name := "<init>", desc := "()V", sig := { parameters := [], returnType := none }, accessFlags := 2, code := none }
def k1c1 : Code := { maxStack := 2, maxLocals := 1, code := method_2_code, exceptionTable := #[], attributes := #[] }
def k1m1 : Method := { name := "tableCost", desc := "(I)I", sig := { parameters := [.int], returnType := some .int }, accessFlags := 10, code := some k1c1 }
def k1c2 : Code := { maxStack := 6, maxLocals := 25, code := code, exceptionTable := #[], attributes := #[] }
def k1m2 : Method := { name := "law", desc := "(III)Z", sig := { parameters := [.int, .int, .int], returnType := some .boolean }, accessFlags := 9, code := some k1c2 }
/-- com/example/lacuna/lacuna/bls12381/SumOfProductsInterleavedCostPinLaw -/
def k1 : Class := { plain "com/example/lacuna/lacuna/bls12381/SumOfProductsInterleavedCostPinLaw" (some 0) with
  accessFlags := 49
  interfaces := #[]
  cf := some (fileOf pool1 9 #[] #[{ accessFlags := 2, nameIndex := 5, descriptorIndex := 6, attributes := #[] }, { accessFlags := 10, nameIndex := 12, descriptorIndex := 13, attributes := #[] }, { accessFlags := 9, nameIndex := 25, descriptorIndex := 26, attributes := #[] }] 49 2 #[] #[])
  fields := #[]
  methods := #[k1m0, k1m1, k1m2]
  instanceTypes := #[]
  staticTypes := #[]
  resolved := Array.replicate 29 none
  statics := none }

def pool2 : Array CpInfo := pool [(2, .class_ 4), (1, u "java/lang/Object"), (0, u "<init>"), (0, u "()V"), (23, .class_ 32), (1, u "com/example/lacuna/lacuna/bls12381/SumOfProducts"), (76, u "MAX_WIDTH"), (0, u "I"), (10, u "interleavedCost"), (0, u "(IIZ)D")] 4

def k2m0 : Method := { name := "<init>", desc := "()V", sig := { parameters := [], returnType := none }, accessFlags := 2, code := none }
def k2c1 : Code := { maxStack := 5, maxLocals := 3, code := prog_17_method_4_code, exceptionTable := #[], attributes := #[] }
def k2m1 : Method := { name := "interleavedCost", desc := "(IIZ)D", sig := { parameters := [.int, .int, .boolean], returnType := some .double }, accessFlags := 8, code := some k2c1 }
/-- com/example/lacuna/lacuna/bls12381/SumOfProducts -/
def k2 : Class := { plain "com/example/lacuna/lacuna/bls12381/SumOfProducts" (some 0) with
  accessFlags := 48
  interfaces := #[]
  cf := some (fileOf pool2 30 #[] #[{ accessFlags := 2, nameIndex := 5, descriptorIndex := 6, attributes := #[] }, { accessFlags := 8, nameIndex := 121, descriptorIndex := 122, attributes := #[] }] 48 2 #[] #[{ accessFlags := 24, nameIndex := 109, descriptorIndex := 110, attributes := #[] }])
  fields := #[{ name := "MAX_WIDTH", type := .int, accessFlags := 24, slot := 0, constantValue := 0 }]
  methods := #[k2m0, k2m1]
  instanceTypes := #[]
  staticTypes := #[.int]
  resolved := Array.replicate 127 none
  statics := none }

def pool3 : Array CpInfo := pool [(1, u "java/lang/Cloneable"), (0, .class_ 1), (0, u "java/lang/Object"), (0, .class_ 3)] 3

/-- java/lang/Cloneable -/
def k3 : Class := { plain "java/lang/Cloneable" (some 0) with
  accessFlags := 1537
  interfaces := #[]
  cf := some (fileOf pool3 2 #[] #[] 1537 4 #[] #[])
  fields := #[]
  methods := #[]
  instanceTypes := #[]
  staticTypes := #[]
  resolved := Array.replicate 8 none
  statics := none }

def pool4 : Array CpInfo := pool [(1, u "java/io/Serializable"), (0, .class_ 1), (0, u "java/lang/Object"), (0, .class_ 3)] 3

/-- java/io/Serializable -/
def k4 : Class := { plain "java/io/Serializable" (some 0) with
  accessFlags := 1537
  interfaces := #[]
  cf := some (fileOf pool4 2 #[] #[] 1537 4 #[] #[])
  fields := #[]
  methods := #[]
  instanceTypes := #[]
  staticTypes := #[]
  resolved := Array.replicate 8 none
  statics := none }

/-- the primitive byte -/
def k5 : Class := { plain "byte" none with kind := .primitive 'B', accessFlags := 0x411 }
/-- [B -/
def k6 : Class := { plain "[B" (some 0) with kind := .array 5 .byte, interfaces := #[3, 4], accessFlags := 1041 }

/-- the primitive int -/
def k7 : Class := { plain "int" none with kind := .primitive 'I', accessFlags := 0x411 }
/-- [I -/
def k8 : Class := { plain "[I" (some 0) with kind := .array 7 .int, interfaces := #[3, 4], accessFlags := 1041 }

def heap : Heap := #[]
def classes : Array Class := #[k0, k1, k2, k3, k4, k5, k6, k7, k8]
def interned : List (Array UInt16 × Addr) := []
def slotsUsed : Nat := 0
def theMethod : MethodId := ⟨1, 2⟩
def args0 : Array Value := #[.int 5, .int 3, .int 7]
def aboutOver (below : List Frame) : State where
  vm := { classes := classes, interned := interned.toArray }
  heap := heap
  slotsUsed := slotsUsed
  threads := #[{ frames := .invoking theMethod args0 :: below }]
def below0 : List Frame := [.native { method := ⟨0, 0⟩, args := #[] }]
def about1 : State := aboutOver below0
def p0 : Program := .bare "" "" ""
def e0 : Env := launch0.env 0 0 0
theorem w_frames : about1.frames = Frame.invoking theMethod args0 :: below0 := rfl
set_option maxRecDepth 65536 in
theorem w_args : argsFit about1.vm theMethod args0 = true := by decide +kernel
set_option maxRecDepth 65536 in
theorem w_heap : heapFits about1 = true := by decide +kernel
set_option maxRecDepth 65536 in
theorem w_runnable : about1.curStatus? = some .runnable := by decide +kernel
set_option maxRecDepth 65536 in
theorem w_alone : about1.alone = true := by decide +kernel
set_option maxRecDepth 65536 in
theorem w_named : about1.methodNamed? x = some theMethod := by decide +kernel
set_option maxRecDepth 65536 in
theorem w_hears : about1.hears theMethod below0 = true := by decide +kernel
set_option maxRecDepth 65536 in
theorem w_ripe : about1.ripe theMethod args0 below0 = true := by decide +kernel
theorem w_running : about1.status = .running := rfl
set_option maxRecDepth 65536 in
theorem w_room : about1.hasRoom e0.platform room_1 = true :=
  launch0.hasRoom_least _ room_1 (by decide +kernel) (by decide +kernel) (by decide +kernel) (by decide +kernel) (by decide +kernel) (by decide +kernel)
theorem allAtoms_all (ts : List Jvm.Cond) (a : Array Jvm.Value) (st : Jvm.State) : (allAtoms ts).before a st = ts.all (fun c => c.before a st) := by
  induction ts with
  | nil => rfl
  | cons c t ih =>
    show (Jvm.Cond.and c (allAtoms t)).before a st = _
    rw [Jvm.Cond.before_and, ih, List.all_cons]
def words1 : List Jvm.Cond := Jvm.Cond.code x code maxLocals ret :: tables_1
/-- a 'code' word, met by the world's own term for the bytes: nothing is compared byte by byte -/
theorem code_word {y : MethodName} {bytes : ByteArray} {mx : Nat} {rt : Option FieldType} {a : Array Value} {s : State} {m : MethodId} {meth : Method} {c : Code} (h1 : s.methodNamed? y = some m) (h2 : s.vm.method? m = some meth) (h3 : meth.code = some c) (h4 : c.code = bytes)
    (h5 : (c.maxLocals == mx && c.exceptionTable.isEmpty && decide (c.maxStack ≤ mostOperands) && decide (meth.sig.returnType = rt) && !meth.locks && decide (parseMethodDescriptor y.desc = some meth.sig)) = true) : (Jvm.Cond.code y bytes mx rt).before a s = true := by
  simp only [Bool.and_eq_true, beq_iff_eq, Bool.not_eq_true', decide_eq_true_eq] at h5
  obtain ⟨⟨⟨⟨⟨g1, g2⟩, g3⟩, g4⟩, g5⟩, g6⟩ := h5
  simp [Cond.before, Cond.holds, Cond.value, h1, h2, h3, h4, g1, g2, g3, g4, g5, g6]
def isCode : Jvm.Cond → Bool
  | .code _ _ _ _ => true
  | _ => false
theorem all_split {L : List Jvm.Cond} {P : Jvm.Cond → Bool} (h1 : L.all (fun c => isCode c || P c) = true) (h2 : ∀ c ∈ L.filter isCode, P c = true) : L.all P = true := by
  refine List.all_eq_true.mpr fun c hc => ?_
  have h := List.all_eq_true.mp h1 c hc
  rcases Bool.eq_false_or_eq_true (isCode c) with hi | hi
  · exact h2 c (List.mem_filter.mpr ⟨hc, hi⟩)
  · simpa [hi] using h
set_option maxRecDepth 65536 in
theorem w_c0 : (Jvm.Cond.code x code maxLocals ret).before args0 about1 = true := code_word (m := ⟨1, 2⟩) (meth := k1m2) (c := k1c2) (by decide +kernel) rfl rfl rfl (by decide +kernel)
set_option maxRecDepth 65536 in
theorem w_c1 : (Jvm.Cond.code ({ cls := "com/example/lacuna/lacuna/bls12381/SumOfProducts", name := "interleavedCost", desc := "(IIZ)D" } : Jvm.MethodName) prog_17_method_4_code (3 : Nat) (Option.some Jvm.ClassFile.FieldType.double)).before args0 about1 = true := code_word (m := ⟨2, 1⟩) (meth := k2m1) (c := k2c1) (by decide +kernel) rfl rfl rfl (by decide +kernel)
set_option maxRecDepth 65536 in
theorem w_c2 : (Jvm.Cond.code ({ cls := "com/example/lacuna/lacuna/bls12381/SumOfProductsInterleavedCostPinLaw", name := "tableCost", desc := "(I)I" } : Jvm.MethodName) method_2_code (1 : Nat) (Option.some Jvm.ClassFile.FieldType.int)).before args0 about1 = true := code_word (m := ⟨1, 1⟩) (meth := k1m1) (c := k1c1) (by decide +kernel) rfl rfl rfl (by decide +kernel)
def codes1 : List Jvm.Cond := [Jvm.Cond.code x code maxLocals ret, Jvm.Cond.code ({ cls := "com/example/lacuna/lacuna/bls12381/SumOfProducts", name := "interleavedCost", desc := "(IIZ)D" } : Jvm.MethodName) prog_17_method_4_code (3 : Nat) (Option.some Jvm.ClassFile.FieldType.double), Jvm.Cond.code ({ cls := "com/example/lacuna/lacuna/bls12381/SumOfProductsInterleavedCostPinLaw", name := "tableCost", desc := "(I)I" } : Jvm.MethodName) method_2_code (1 : Nat) (Option.some Jvm.ClassFile.FieldType.int)]
set_option maxRecDepth 65536 in
theorem codes_eq : words1.filter isCode = codes1 := rfl
theorem w_codes : ∀ c ∈ words1.filter isCode, c.before args0 about1 = true := by
  rw [codes_eq]
  intro c hc
  simp only [codes1, List.mem_cons, List.not_mem_nil, or_false] at hc
  rcases hc with rfl | rfl | rfl
  · exact w_c0
  · exact w_c1
  · exact w_c2
set_option maxRecDepth 65536 in
theorem w_t1 : words1.all (fun c => isCode c || c.before args0 about1) = true := by decide +kernel
theorem w_tables : (allAtoms (Jvm.Cond.code x code maxLocals ret :: tables_1)).before args0 about1 = true := by
  rw [allAtoms_all]
  show words1.all (fun c => c.before args0 about1) = true
  refine all_split ?_ w_codes
  rw [w_t1]
set_option maxRecDepth 65536 in
theorem w_case : (Jvm.Cond.and given_1 narrow_1).before args0 about1 = true := by decide +kernel
theorem w_applies : (headSpec (Jvm.Cond.code x code maxLocals ret :: tables_1) room_1).applies x e0.platform about1 = true :=
  (Spec.applies_iff w_frames).mpr ⟨w_running, w_runnable, w_alone, w_named, w_hears, w_ripe, w_room, w_tables⟩
theorem atStart : AtStart classFile x code maxLocals ret World_1 tables_1 room_1 Calls_1 rest_1 Pre_1 launch0 p0 e0 about1 theMethod args0 below0 :=
  ⟨lists_1, trivial, launch0.admits_env _ _ _, launch0.least_env, fairChoices_fair.cas, fairChoices_fair.clock, w_frames, w_args, w_heap, w_applies, trivial, trivial, w_case⟩
end start1
theorem witness_1 : WitnessClaimed_1 := ⟨start1.p0, start1.e0, start1.about1, start1.theMethod, start1.args0, start1.below0, start1.atStart⟩
end Jvm.Pilot.@@N@@
