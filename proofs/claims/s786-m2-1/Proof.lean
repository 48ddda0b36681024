import JvmDerived
import JvmDerived.Pilot.@@N@@Statement
import JvmDerived.Pilot.@@N@@Code
set_option linter.unusedVariables false
set_option linter.unusedSimpArgs false
namespace Jvm.Pilot.@@N@@
open Jvm Jvm.ClassFile Sem Op Lib Jvm.Free Jvm.Stand Jvm.LawKit Jvm.RoadKit Bundle Jvm.Pilot.@@N@@.Jvm.D
section Own
variable {p : Program} {l : Launch} {e : Env} {R : Room} {s : State} {m : MethodId} {args : Array Value} {below : List Frame} {meth : Method} {c : Code} {T : State} {locs : List Loc} {cells slots : Nat} {Z : State} {a0 : Array Value} {h : Heap} {Q : Option Value → Heap → List Loc → Prop} {C S : Nat} {u u' : State} {F : Outcome → State → List Loc → Prop}
/-- from u the invocation comes to its end, and Q holds of what it returns, of the heap and of the places written -/
def ownFin (p : Program) (e : Env) (below : List Frame) (F : Outcome → State → List Loc → Prop) (Q : Option Value → Heap → List Loc → Prop) (u : State) : Prop :=
  ∃ t o, Steps p.tables e below u t ∧ t.status = .running ∧ Ended t below o ∧ ∃ v L, o = .returned v ∧ Q v t.heap L ∧ F o t L
/-- how it ends: at most C new cells of S slots, the tables warmer, nothing old written but at the places L -/
def ownFE (s : State) (C S : Nat) : Outcome → State → List Loc → Prop := fun o t L => FrameEnd s o t L C S
theorem ownVia (f : ∀ t, Steps p.tables e below u' t → Steps p.tables e below u t) (k : ownFin p e below F Q u') : ownFin p e below F Q u := by
  obtain ⟨t, o, h1, r⟩ := k
  exact ⟨t, o, f t h1, r⟩
theorem ownRet (X : Stand p l e R s m args below meth c T locs cells slots) (hlk : meth.locks = false) {v : Option Value} (hv : meth.sig.returnType = none → v = none)
    (f : ∀ fs, (∀ (f : JFrame) (acts : List Action), f.method = m → f.locked = none → f.entered = [] → (doReturn e (T.setTop f) acts v).1 = T.setFrames fs) → Steps p.tables e below u (T.setFrames fs))
    (hC : cells ≤ C) (hS : slots ≤ S) (hQ : Q v T.heap locs) : ownFin p e below (ownFE s C S) Q u := by
  obtain ⟨fs, hr, hrun, hended, hW, hsame⟩ := X.leave (v := v) hv hlk
  exact ⟨_, _, f fs hr, hrun, hended, v, _, rfl, hQ, ⟨_, rfl⟩, hW, hsame.mono hC hS⟩
theorem ownRetI (X : Stand p l e R s m args below meth c T locs cells slots) (hx : p.tables.exec = Jvm.exec) (hlk : meth.locks = false) (hret : meth.sig.returnType = some .int) {pc : Nat} {Ls : Array Slot} {z : Int32} {rest : List Value} (hd : decode c.code pc = .ok (.ireturn, 1)) (hC : cells ≤ C) (hS : slots ≤ S) (hQ : Q (some (.int z)) T.heap locs) : ownFin p e below (ownFE s C S) Q (T.setTop (mkF m pc Ls (.int z :: rest))) :=
  ownRet X hlk (v := some (.int z)) (fun q => by rw [hret] at q; cases q) (fun fs hr => retOut X hx hret rfl (Or.inl ⟨rfl, Or.inl rfl, z, rfl⟩) hd hr) hC hS hQ
theorem ownRetZ (X : Stand p l e R s m args below meth c T locs cells slots) (hx : p.tables.exec = Jvm.exec) (hlk : meth.locks = false) (hret : meth.sig.returnType = some .boolean) {pc : Nat} {Ls : Array Slot} {z : Int32} {rest : List Value} (hd : decode c.code pc = .ok (.ireturn, 1)) (hC : cells ≤ C) (hS : slots ≤ S) (hz : z = 0 ∨ z = 1) (hQ : Q (some (.int z)) T.heap locs) : ownFin p e below (ownFE s C S) Q (T.setTop (mkF m pc Ls (.int z :: rest))) :=
  ownRet X hlk (v := some (.int z)) (fun q => by rw [hret] at q; cases q) (fun fs hr => retOut X hx hret (by rcases hz with rfl | rfl <;> rfl) (Or.inl ⟨rfl, Or.inr (Or.inl rfl), z, rfl⟩) hd hr) hC hS hQ
theorem ownRetJ (X : Stand p l e R s m args below meth c T locs cells slots) (hx : p.tables.exec = Jvm.exec) (hlk : meth.locks = false) (hret : meth.sig.returnType = some .long) {pc : Nat} {Ls : Array Slot} {z : Int64} {rest : List Value} (hd : decode c.code pc = .ok (.lreturn, 1)) (hC : cells ≤ C) (hS : slots ≤ S) (hQ : Q (some (.long z)) T.heap locs) : ownFin p e below (ownFE s C S) Q (T.setTop (mkF m pc Ls (.long z :: rest))) :=
  ownRet X hlk (v := some (.long z)) (fun q => by rw [hret] at q; cases q) (fun fs hr => retOut X hx hret rfl (Or.inr (Or.inl ⟨rfl, rfl, z, rfl⟩)) hd hr) hC hS hQ
theorem ownRetA (X : Stand p l e R s m args below meth c T locs cells slots) (hx : p.tables.exec = Jvm.exec) (hlk : meth.locks = false) {ty : FieldType} (hret : meth.sig.returnType = some ty) (hty : ty.isReference = true) {pc : Nat} {Ls : Array Slot} {a : Addr} {rest : List Value} (hd : decode c.code pc = .ok (.areturn, 1)) (hC : cells ≤ C) (hS : slots ≤ S) (hQ : Q (some (.ref a)) T.heap locs) : ownFin p e below (ownFE s C S) Q (T.setTop (mkF m pc Ls (.ref a :: rest))) :=
  ownRet X hlk (v := some (.ref a)) (fun q => by rw [hret] at q; cases q) (fun fs hr => retOut X hx hret (by cases ty <;> first | rfl | cases hty) (Or.inr (Or.inr (Or.inr (Or.inr ⟨rfl, hty, rfl⟩)))) hd hr) hC hS hQ
theorem ownRetV (X : Stand p l e R s m args below meth c T locs cells slots) (hx : p.tables.exec = Jvm.exec) (hlk : meth.locks = false) (hret : meth.sig.returnType = none) {pc : Nat} {Ls : Array Slot} (hd : decode c.code pc = .ok (.return_, 1)) (hC : cells ≤ C) (hS : slots ≤ S) (hQ : Q none T.heap locs) : ownFin p e below (ownFE s C S) Q (T.setTop (mkF m pc Ls [])) :=
  ownRet X hlk (v := none) (fun _ => rfl) (fun fs hr => X.returnOut hx hret hd hr) hC hS hQ
/-- the contract of a method at given arguments and a given heap -/
abbrev ownMet (l : Launch) (Z : State) (y : MethodName) (bytes : ByteArray) (maxL : Nat) (ret : Option FieldType) (ws : List Jvm.Cond) (rm : Room) (as' : Array Value) (h0 : Heap) (Q : Option Value → Heap → List Loc → Prop) : Prop :=
  MetFree l y (head1 (Jvm.Cond.code y bytes maxL ret :: ws) rm) (fun a U => a = as' ∧ Z.Warmed39 U.vm ∧ U.heap = h0) (fun _ _ _ _ _ => True) (fun _ U o U' => ∃ v L, o = .returned v ∧ Q v U'.heap L ∧ FrameEnd U o U' L rm.cells rm.slots)
theorem ownBody {y : MethodName} {bytes : ByteArray} {maxL : Nat} {ret : Option FieldType} {ws : List Jvm.Cond} {rm : Room} {as' : Array Value} {h0 : Heap} (hpl : plainFor y = true)
    (H : ∀ (p : Program) (e : Env) (s : State) (m : MethodId) (below : List Frame) (meth : Method) (c : Code) (T : State), p.tables.exec = Jvm.exec → c.code = bytes → c.maxLocals = maxL → meth.sig.returnType = ret → meth.locks = false → Z.Warmed39 s.vm → s.vm.findClass y.cls = some m.cls → meth.name = y.name →
      Stand p l e rm s m as' below meth c T [] 0 0 → T.heap = h0 → ownFin p e below (ownFE s rm.cells rm.slots) Q (T.setTop (entryFrame m as' maxL))) : ownMet l Z y bytes maxL ret ws rm as' h0 Q := by
  refine MetFree.of_bodySF hpl hisR ?_
  intro p e s m args below meth c s₁ Bd hml0 hP hK
  obtain ⟨rfl, hZ, hh⟩ := hP
  exact H p e s m below meth c s₁ Bd.exec Bd.bytes hml0 Bd.returns Bd.notSynchronized hZ (findClass_of_methodNamed Bd.named) (name_of_methodNamed Bd.named Bd.method).1 (Stand.of_body Bd) (by rw [← hh, Bd.state]; rfl)
theorem ownCallS {own : String} {index : Nat} {y : MethodName} {bytes : ByteArray} {maxL : Nat} {ret : Option FieldType} {rm : Room} {as' : Array Value} {Q' : Option Value → Heap → List Loc → Prop}
    (X : Stand p l e R s m args below meth c T locs cells slots) (hx : p.tables.exec = Jvm.exec) (hZ : Z.Warmed39 s.vm) (hown : s.vm.findClass own = some m.cls)
    (w1 : (Jvm.Cond.methodLink own index y).before a0 Z = true) (w2 : (Jvm.Cond.static y).before a0 Z = true) (w3 : (Jvm.Cond.initialized y.cls).before a0 Z = true) (w4 : (Jvm.Cond.code y bytes maxL ret).before a0 Z = true)
    (hy : y.cls ≠ "java/lang/invoke/MethodHandle" ∧ y.cls ≠ "java/lang/invoke/VarHandle") (eT : T.heap = h) (hM : ownMet l Z y bytes maxL ret [] rm as' h Q')
    {pc : Nat} {Ls : Array Slot} {st : List Value} (hsz : Ls.size = c.maxLocals) (argsL rest : List Value) (hlen : ∀ sig, parseMethodDescriptor y.desc = some sig → argsL.length = sig.parameters.length)
    (hst : st = argsL.reverse ++ rest) (has : argsL.toArray = as') (W : Nat) (hW : (rest.map fun v => v.category).sum = W) (hd : decode c.code pc = .ok (.invokestatic index, 3))
    (hfr : rm.frames + 1 ≤ R.frames) (hlo : W + (maxL + 11) + rm.locals ≤ R.locals) (hce : cells + rm.cells ≤ R.cells) (hsl : slots + rm.slots ≤ R.slots)
    (K : ∀ v T' L', Stand p l e R s m args below meth c T' (locs ++ L') (cells + rm.cells) (slots + rm.slots) → Q' v T'.heap L' → ownFin p e below F Q (T'.setTop (mkF m (pc + 3) Ls (v.toList ++ rest)))) :
    ownFin p e below F Q (T.setTop (mkF m pc Ls st)) := by
  obtain ⟨v, _, ⟨T2, L2, k2, n2⟩, -, X2, ⟨Lc2, hQ2, l2, y2, z2⟩, st2⟩ := Jvm.LawKit.callS X hx (y := y) hown (mvT hZ w1) (mvT hZ w2) (mvT hZ w3) (mvT hZ w4) hy (backOf (W := W) hM hZ w4 w3 hfr hlo) (g := mkF m pc Ls st) rfl hsz (argsL := argsL) (rest := rest) hlen hst (by show 2 * 0 + _ ≤ _; omega) hd (fun _ _ => ⟨has, eT, hce, hsl⟩)
  dsimp only [Pt.U, Pt.locs, Pt.cells, Pt.slots] at X2 l2 y2 z2 st2 hQ2
  subst l2 y2 z2
  exact ownVia st2 (K v T2 Lc2 X2 hQ2)
theorem ownCallN {own : String} {index : Nat} {y : MethodName} {bytes : ByteArray} {maxL : Nat} {rm : Room} {as' : Array Value} {Q' : Option Value → Heap → List Loc → Prop}
    (X : Stand p l e R s m args below meth c T locs cells slots) (hx : p.tables.exec = Jvm.exec) (hZ : Z.Warmed39 s.vm) (hown : s.vm.findClass own = some m.cls) (hy1 : y.name = "<init>")
    (w1 : (Jvm.Cond.methodLink own index y).before a0 Z = true) (w2 : (Jvm.Cond.instanceMethod y).before a0 Z = true) (w3 : (Jvm.Cond.initialized y.cls).before a0 Z = true) (w4 : (Jvm.Cond.code y bytes maxL none).before a0 Z = true)
    (hy : y.cls ≠ "java/lang/invoke/MethodHandle" ∧ y.cls ≠ "java/lang/invoke/VarHandle") (eT : T.heap = h) (hM : ownMet l Z y bytes maxL none [] rm as' h Q')
    {pc : Nat} {Ls : Array Slot} {st : List Value} (hsz : Ls.size = c.maxLocals) (a : Addr) (argsL rest : List Value) (hlen : ∀ sig, parseMethodDescriptor y.desc = some sig → argsL.length = sig.parameters.length)
    (hst : st = argsL.reverse ++ .ref a :: rest) (has : (Value.ref a :: argsL).toArray = as') (W : Nat) (hW : (rest.map fun v => v.category).sum = W) (hd : decode c.code pc = .ok (.invokespecial index, 3))
    (hfr : rm.frames + 1 ≤ R.frames) (hlo : W + (maxL + 11) + rm.locals ≤ R.locals) (hce : cells + rm.cells ≤ R.cells) (hsl : slots + rm.slots ≤ R.slots)
    (K : ∀ v T' L', Stand p l e R s m args below meth c T' (locs ++ L') (cells + rm.cells) (slots + rm.slots) → Q' v T'.heap L' → ownFin p e below F Q (T'.setTop (mkF m (pc + 3) Ls (v.toList ++ rest)))) :
    ownFin p e below F Q (T.setTop (mkF m pc Ls st)) := by
  obtain ⟨v, _, ⟨T2, L2, k2, n2⟩, -, X2, ⟨Lc2, hQ2, l2, y2, z2⟩, st2⟩ := X.specialBack hx (y := y) hy1 hown (mvT hZ w1) (mvT hZ w2) (mvT hZ w4) hy (backOf (W := W) hM hZ w4 w3 hfr hlo) (g := mkF m pc Ls st) rfl hsz (Steps.refl _) (a := a) (argsL := argsL) (rest := rest) hlen hst (by show 2 * 0 + _ ≤ _; omega) hd (fun _ _ => ⟨has, eT, hce, hsl⟩)
  dsimp only [Pt.U, Pt.locs, Pt.cells, Pt.slots] at X2 l2 y2 z2 st2 hQ2
  subst l2 y2 z2
  exact ownVia (fun _ k => st2.trans k) (K v T2 Lc2 X2 hQ2)
theorem ownCallV {own C' : String} {index : Nat} {y z : MethodName} {bytes : ByteArray} {maxL : Nat} {ret : Option FieldType} {rm : Room} {as' : Array Value} {Q' : Option Value → Heap → List Loc → Prop}
    (X : Stand p l e R s m args below meth c T locs cells slots) (hx : p.tables.exec = Jvm.exec) (hZ : Z.Warmed39 s.vm) (hown : s.vm.findClass own = some m.cls)
    (w1 : (Jvm.Cond.methodLink own index y).before a0 Z = true) (w2 : (Jvm.Cond.declares y).before a0 Z = true) (w5 : (Jvm.Cond.selects y.cls y y).before a0 Z = true) (w6 : (Jvm.Cond.selects C' y z).before a0 Z = true) (w7 : (Jvm.Cond.instanceMethod z).before a0 Z = true) (w3 : (Jvm.Cond.initialized z.cls).before a0 Z = true) (w4 : (Jvm.Cond.code z bytes maxL ret).before a0 Z = true)
    (hy : y.cls ≠ "java/lang/invoke/MethodHandle" ∧ y.cls ≠ "java/lang/invoke/VarHandle") (eT : T.heap = h) {a : Addr} (E : Exa Z h a C') (hM : ownMet l Z z bytes maxL ret [] rm as' h Q')
    {pc : Nat} {Ls : Array Slot} {st : List Value} (hsz : Ls.size = c.maxLocals) (argsL rest : List Value) (hlen : ∀ sig, parseMethodDescriptor y.desc = some sig → argsL.length = sig.parameters.length)
    (hst : st = argsL.reverse ++ .ref a :: rest) (has : (Value.ref a :: argsL).toArray = as') (W : Nat) (hW : (rest.map fun v => v.category).sum = W) (hd : decode c.code pc = .ok (.invokevirtual index, 3))
    (hfr : rm.frames + 1 ≤ R.frames) (hlo : W + (maxL + 11) + rm.locals ≤ R.locals) (hce : cells + rm.cells ≤ R.cells) (hsl : slots + rm.slots ≤ R.slots)
    (K : ∀ v T' L', Stand p l e R s m args below meth c T' (locs ++ L') (cells + rm.cells) (slots + rm.slots) → Q' v T'.heap L' → ownFin p e below F Q (T'.setTop (mkF m (pc + 3) Ls (v.toList ++ rest)))) :
    ownFin p e below F Q (T.setTop (mkF m pc Ls st)) := by
  obtain ⟨cq, kq, qa, qb, qc⟩ := isOf hZ eT E
  obtain ⟨v, _, ⟨T2, L2, k2, n2⟩, -, X2, ⟨Lc2, hQ2, l2, y2, z2⟩, st2⟩ := X.virtualBack hx (y := y) (z := z) hown (mvT hZ w1) (mvT hZ w2) (notFace_of_selects (args := #[]) (mvT hZ w5)) (mvT hZ w6) (mvT hZ w7) hy (backOf (W := W) hM hZ w4 w3 hfr hlo) qa qc (g := mkF m pc Ls st) rfl hsz (Steps.refl _) (argsL := argsL) (rest := rest) hlen hst (by show 2 * 0 + _ ≤ _; omega) hd (fun _ _ => ⟨has, eT, hce, hsl⟩)
  dsimp only [Pt.U, Pt.locs, Pt.cells, Pt.slots] at X2 l2 y2 z2 st2 hQ2
  subst l2 y2 z2
  exact ownVia (fun _ k => st2.trans k) (K v T2 Lc2 X2 hQ2)
theorem ownLen {a : Addr} {k : ClassId} {ty : FieldType} {z : Int32} {vs : List Value} {dv : Value} (X : Stand p l e R s m args below meth c T locs cells slots) (hx : p.tables.exec = Jvm.exec) (hZ : Z.Warmed39 s.vm) (eT : T.heap = h) (A : Arv Z h a k ty z vs dv) {pc : Nat} {Ls : Array Slot} {rest : List Value} (hd : decode c.code pc = .ok (.arraylength, 1))
    (K : ownFin p e below F Q (T.setTop (mkF m (pc + 1) Ls (.int z :: rest)))) : ownFin p e below F Q (T.setTop (mkF m pc Ls (.ref a :: rest))) := by
  obtain ⟨cl, Ar, -, Sz, Nz, -, -⟩ := A
  rw [← len_of Sz Nz] at K
  exact ownVia (fun t k => X.arraylength hx (by rw [eT]; exact Ar.1) (State.isArrayOf_alike hZ.alike Ar.2.1) (g := mkF m pc Ls (.ref a :: rest)) rfl rfl hd t k) K
theorem ownBaload {a : Addr} {k : ClassId} {z j : Int32} {vs : List Value} {dv v : Value} (X : Stand p l e R s m args below meth c T locs cells slots) (hx : p.tables.exec = Jvm.exec) (hZ : Z.Warmed39 s.vm) (eT : T.heap = h) (A : Arv Z h a k .byte z vs dv) (hj : ¬ j < 0 ∧ j < z) (hv : vs.getD j.toNatClampNeg dv = v) {pc : Nat} {Ls : Array Slot} {rest : List Value} (hd : decode c.code pc = .ok (.baload, 1))
    (K : ownFin p e below F Q (T.setTop (mkF m (pc + 1) Ls (v :: rest)))) : ownFin p e below F Q (T.setTop (mkF m pc Ls (.int j :: .ref a :: rest))) := by
  obtain ⟨cl, Ar, -, Sz, Nz, H, -⟩ := A
  have hin := inb_of Sz hj
  exact ownVia (fun t k => X.baloadBytes hx (by rw [eT]; exact Ar.1) (State.isArrayOf_alike hZ.alike Ar.2.1) Ar.2.2 hin (H.at hin hv) (g := mkF m pc Ls (.int j :: .ref a :: rest)) rfl rfl hd t k) K
theorem ownIaload {a : Addr} {k : ClassId} {z j : Int32} {vs : List Value} {dv v : Value} (X : Stand p l e R s m args below meth c T locs cells slots) (hx : p.tables.exec = Jvm.exec) (hZ : Z.Warmed39 s.vm) (eT : T.heap = h) (A : Arv Z h a k .int z vs dv) (hj : ¬ j < 0 ∧ j < z) (hv : vs.getD j.toNatClampNeg dv = v) {pc : Nat} {Ls : Array Slot} {rest : List Value} (hd : decode c.code pc = .ok (.iaload, 1))
    (K : ownFin p e below F Q (T.setTop (mkF m (pc + 1) Ls (v :: rest)))) : ownFin p e below F Q (T.setTop (mkF m pc Ls (.int j :: .ref a :: rest))) := by
  obtain ⟨cl, Ar, -, Sz, Nz, H, -⟩ := A
  have hin := inb_of Sz hj
  exact ownVia (fun t k => X.iaload hx (by rw [eT]; exact Ar.1) (State.isArrayOf_alike hZ.alike Ar.2.1) Ar.2.2 hin (H.at hin hv) (g := mkF m pc Ls (.int j :: .ref a :: rest)) rfl rfl hd t k) K
theorem ownLaload {a : Addr} {k : ClassId} {z j : Int32} {vs : List Value} {dv v : Value} (X : Stand p l e R s m args below meth c T locs cells slots) (hx : p.tables.exec = Jvm.exec) (hZ : Z.Warmed39 s.vm) (eT : T.heap = h) (A : Arv Z h a k .long z vs dv) (hj : ¬ j < 0 ∧ j < z) (hv : vs.getD j.toNatClampNeg dv = v) {pc : Nat} {Ls : Array Slot} {rest : List Value} (hd : decode c.code pc = .ok (.laload, 1))
    (K : ownFin p e below F Q (T.setTop (mkF m (pc + 1) Ls (v :: rest)))) : ownFin p e below F Q (T.setTop (mkF m pc Ls (.int j :: .ref a :: rest))) := by
  obtain ⟨cl, Ar, -, Sz, Nz, H, -⟩ := A
  have hin := inb_of Sz hj
  exact ownVia (fun t k => X.laload hx (by rw [eT]; exact Ar.1) (State.isArrayOf_alike hZ.alike Ar.2.1) Ar.2.2 hin (H.at hin hv) (g := mkF m pc Ls (.int j :: .ref a :: rest)) rfl rfl hd t k) K
theorem ownBastore {a : Addr} {k : ClassId} {z j x : Int32} {vs : List Value} {dv : Value} {n0 : Nat} (X : Stand p l e R s m args below meth c T locs cells slots) (hx : p.tables.exec = Jvm.exec) (hZ : Z.Warmed39 s.vm) (eT : T.heap = h) (A : Arv Z h a k .byte z vs dv) (hj : ¬ j < 0 ∧ j < z) (i : Nat) (hi : j.toNatClampNeg = i) (hl : i < vs.length) (N : Fr n0 locs) (ge : n0 ≤ a) {pc : Nat} {Ls : Array Slot} {rest : List Value} (hd : decode c.code pc = .ok (.bastore, 1))
    (K : ∀ T' h' L', Stand p l e R s m args below meth c T' L' cells slots → T'.heap = h' → Fr n0 L' → Wr h h' a i (.int (nar .byte x)) → Arv Z h' a k .byte z (vs.set i (.int (nar .byte x))) dv → ownFin p e below F Q (T'.setTop (mkF m (pc + 1) Ls rest))) :
    ownFin p e below F Q (T.setTop (mkF m pc Ls (.int x :: .int j :: .ref a :: rest))) := by
  obtain ⟨cl, Ar, q1, Sz, Nz, H, G⟩ := A
  obtain ⟨T', h', X', e', W, st⟩ := stB X hx hZ eT Ar (j := j) (x := x) (inb_of Sz hj) (g := mkF m pc Ls (.int x :: .int j :: .ref a :: rest)) rfl rfl hd
  have N' := Fr.snoc X' N ge
  have A' := Arv.set Ar q1 Sz Nz H G (fits_nar_byte x) W i hi hl
  rw [hi] at W
  exact ownVia st (K T' h' _ X' e' N' W A')
theorem ownIastore {a : Addr} {k : ClassId} {z j x : Int32} {vs : List Value} {dv : Value} {n0 : Nat} (X : Stand p l e R s m args below meth c T locs cells slots) (hx : p.tables.exec = Jvm.exec) (hZ : Z.Warmed39 s.vm) (eT : T.heap = h) (A : Arv Z h a k .int z vs dv) (hj : ¬ j < 0 ∧ j < z) (i : Nat) (hi : j.toNatClampNeg = i) (hl : i < vs.length) (N : Fr n0 locs) (ge : n0 ≤ a) {pc : Nat} {Ls : Array Slot} {rest : List Value} (hd : decode c.code pc = .ok (.iastore, 1))
    (K : ∀ T' h' L', Stand p l e R s m args below meth c T' L' cells slots → T'.heap = h' → Fr n0 L' → Wr h h' a i (.int x) → Arv Z h' a k .int z (vs.set i (.int x)) dv → ownFin p e below F Q (T'.setTop (mkF m (pc + 1) Ls rest))) :
    ownFin p e below F Q (T.setTop (mkF m pc Ls (.int x :: .int j :: .ref a :: rest))) := by
  obtain ⟨cl, Ar, q1, Sz, Nz, H, G⟩ := A
  obtain ⟨T', h', X', e', W, st⟩ := stI X hx hZ eT Ar (j := j) (x := x) (inb_of Sz hj) (g := mkF m pc Ls (.int x :: .int j :: .ref a :: rest)) rfl rfl hd
  have N' := Fr.snoc X' N ge
  have A' := Arv.set Ar q1 Sz Nz H G rfl W i hi hl
  rw [hi] at W
  exact ownVia st (K T' h' _ X' e' N' W A')
theorem ownLastore {a : Addr} {k : ClassId} {z j : Int32} {x : Int64} {vs : List Value} {dv : Value} {n0 : Nat} (X : Stand p l e R s m args below meth c T locs cells slots) (hx : p.tables.exec = Jvm.exec) (hZ : Z.Warmed39 s.vm) (eT : T.heap = h) (A : Arv Z h a k .long z vs dv) (hj : ¬ j < 0 ∧ j < z) (i : Nat) (hi : j.toNatClampNeg = i) (hl : i < vs.length) (N : Fr n0 locs) (ge : n0 ≤ a) {pc : Nat} {Ls : Array Slot} {rest : List Value} (hd : decode c.code pc = .ok (.lastore, 1))
    (K : ∀ T' h' L', Stand p l e R s m args below meth c T' L' cells slots → T'.heap = h' → Fr n0 L' → Wr h h' a i (.long x) → Arv Z h' a k .long z (vs.set i (.long x)) dv → ownFin p e below F Q (T'.setTop (mkF m (pc + 1) Ls rest))) :
    ownFin p e below F Q (T.setTop (mkF m pc Ls (.long x :: .int j :: .ref a :: rest))) := by
  obtain ⟨cl, Ar, q1, Sz, Nz, H, G⟩ := A
  obtain ⟨T', h', X', e', W, st⟩ := stJ X hx hZ eT Ar (j := j) (x := x) (inb_of Sz hj) (g := mkF m pc Ls (.long x :: .int j :: .ref a :: rest)) rfl rfl hd
  have N' := Fr.snoc X' N ge
  have A' := Arv.set Ar q1 Sz Nz H G rfl W i hi hl
  rw [hi] at W
  exact ownVia st (K T' h' _ X' e' N' W A')
theorem ownNewP {aty : ArrayType} {n : Int32} (X : Stand p l e R s m args below meth c T locs cells slots) (hx : p.tables.exec = Jvm.exec) (hZ : Z.Warmed39 s.vm) (w : (Jvm.Cond.arrayClass (newarray.typeOf aty)).before a0 Z = true) (eT : T.heap = h) (ad : String) (had : "[" ++ (newarray.typeOf aty).toString = ad) (hn : ¬ n < 0) (N : Nat) (hN : n.toNatClampNeg = N) (cap : Nat) (hcap : N ≤ cap) (hb : cap * 8 ≤ 536870912) (hc : cells + 1 ≤ R.cells) (hl : slots + cap ≤ R.slots)
    {pc : Nat} {Ls : Array Slot} {rest : List Value} (hd : decode c.code pc = .ok (.newarray aty, 2))
    (K : ∀ T' h' k a, a = h.size → Stand p l e R s m args below meth c T' locs (cells + 1) (slots + cap) → T'.heap = h' → Ext h h' → Arv Z h' a k (newarray.typeOf aty) n (List.replicate N (defaultValue (newarray.typeOf aty))) (defaultValue (newarray.typeOf aty)) → Exa Z h' a ad → ownFin p e below F Q (T'.setTop (mkF m (pc + 2) Ls (.ref a :: rest)))) :
    ownFin p e below F Q (T.setTop (mkF m pc Ls (.int n :: rest))) := by
  obtain ⟨T', h', k, X', e', E, A, Ex, st⟩ := newPE X hx hZ w eT (g := mkF m pc Ls (.int n :: rest)) rfl hd rfl hn (cap := cap) (by rw [hN]; exact hcap) hb hc hl had
  exact ownVia st (K T' h' k _ rfl X' e' E ((Arv.new A hn).pad (pad_rep [] _ _)) Ex)
theorem ownClone {own : String} {index : Nat} {a : Addr} {k : ClassId} {ty : FieldType} {z : Int32} {vs : List Value} {dv : Value} {ad : String} (X : Stand p l e R s m args below meth c T locs cells slots) (hx : p.tables.exec = Jvm.exec) (hZ : Z.Warmed39 s.vm) (hown : s.vm.findClass own = some m.cls)
    (w1 : (Jvm.Cond.methodLink own index ⟨ad, "clone", "()Ljava/lang/Object;"⟩).before a0 Z = true) (w2 : (Jvm.Cond.sameMethod ad "java/lang/Object" "clone" "()Ljava/lang/Object;").before a0 Z = true) (w3 : (Jvm.Cond.native ⟨"java/lang/Object", "clone", "()Ljava/lang/Object;"⟩).before a0 Z = true)
    (w4 : (Jvm.Cond.instanceMethod ⟨"java/lang/Object", "clone", "()Ljava/lang/Object;"⟩).before a0 Z = true) (w5 : (Jvm.Cond.selects ad ⟨ad, "clone", "()Ljava/lang/Object;"⟩ ⟨"java/lang/Object", "clone", "()Ljava/lang/Object;"⟩).before a0 Z = true) (w6 : (Jvm.Cond.castable ad "java/lang/Cloneable").before a0 Z = true)
    (eT : T.heap = h) (A : Arv Z h a k ty z vs dv) (E : Exa Z h a ad) {pc : Nat} {Ls : Array Slot} {rest : List Value} (hsz : Ls.size = c.maxLocals) (hd : decode c.code pc = .ok (.invokevirtual index, 3)) (hf : 1 ≤ R.frames) (W : Nat) (hW : (rest.map fun v => v.category).sum = W) (hlo : W + 14 ≤ R.locals) (cap : Nat) (hcap : z.toNatClampNeg ≤ cap) (hc : cells + 1 ≤ R.cells) (hsl : slots + cap ≤ R.slots)
    (K : ∀ T' h' b, b = h.size → Stand p l e R s m args below meth c T' locs (cells + 1) (slots + cap) → T'.heap = h' → Ext h h' → Arv Z h' b k ty z vs dv → Exa Z h' b ad → ownFin p e below F Q (T'.setTop (mkF m (pc + 3) Ls (.ref b :: rest)))) :
    ownFin p e below F Q (T.setTop (mkF m pc Ls (.ref a :: rest))) := by
  obtain ⟨T', h', X', e', Ex, A', E', st⟩ := cloneH X hx hZ hown w1 w2 w3 w4 w5 w6 eT A.arh E (g := mkF m pc Ls (.ref a :: rest)) rfl hsz rfl hd hf (W := W) (by show 2 * 0 + _ ≤ _; omega) hlo hcap hc hsl
  exact ownVia st (K T' h' _ rfl X' e' Ex A' E')
theorem ownCallP {own : String} {index : Nat} {y y2 : MethodName} {bytes : ByteArray} {maxL : Nat} {ret : Option FieldType} {rm : Room} {as' : Array Value} {Q' : Option Value → Heap → List Loc → Prop} {C' : String}
    (X : Stand p l e R s m args below meth c T locs cells slots) (hx : p.tables.exec = Jvm.exec) (hZ : Z.Warmed39 s.vm) (hown : s.vm.findClass own = some m.cls)
    (w1 : (Jvm.Cond.methodLink own index y).before a0 Z = true) (w2 : (Jvm.Cond.privateMethod y).before a0 Z = true) (w5 : (Jvm.Cond.selects y2.cls y2 y2).before a0 Z = true) (hc2 : y2.cls = y.cls) (w7 : (Jvm.Cond.instanceMethod y).before a0 Z = true) (w3 : (Jvm.Cond.initialized y.cls).before a0 Z = true) (w4 : (Jvm.Cond.code y bytes maxL ret).before a0 Z = true)
    (hy : y.cls ≠ "java/lang/invoke/MethodHandle" ∧ y.cls ≠ "java/lang/invoke/VarHandle") (eT : T.heap = h) {a : Addr} (E : Exa Z h a C') (hM : ownMet l Z y bytes maxL ret [] rm as' h Q')
    {pc : Nat} {Ls : Array Slot} {st : List Value} (hsz : Ls.size = c.maxLocals) (argsL rest : List Value) (hlen : ∀ sig, parseMethodDescriptor y.desc = some sig → argsL.length = sig.parameters.length)
    (hst : st = argsL.reverse ++ .ref a :: rest) (has : (Value.ref a :: argsL).toArray = as') (W : Nat) (hW : (rest.map fun v => v.category).sum = W) (hd : decode c.code pc = .ok (.invokevirtual index, 3))
    (hfr : rm.frames + 1 ≤ R.frames) (hlo : W + (maxL + 11) + rm.locals ≤ R.locals) (hce : cells + rm.cells ≤ R.cells) (hsl : slots + rm.slots ≤ R.slots)
    (K : ∀ v T' L', Stand p l e R s m args below meth c T' (locs ++ L') (cells + rm.cells) (slots + rm.slots) → Q' v T'.heap L' → ownFin p e below F Q (T'.setTop (mkF m (pc + 3) Ls (v.toList ++ rest)))) :
    ownFin p e below F Q (T.setTop (mkF m pc Ls st)) := by
  have hpriv : s.PrivateAt y := Cond.privateMethod_at (mvP hZ w2 (args := #[]))
  have hsel2 : (Jvm.Cond.selects y2.cls y2 y2).before args s = true := mvT hZ w5
  obtain ⟨c2, r2, m2, q1, q2, q3, q4, kP, hkP, hkPi⟩ := Cond.selects_spec hsel2
  have hf2 := findClass_of_methodNamed q3
  rw [hc2] at hf2
  have hsel : (Jvm.Cond.selects y.cls y y).before args s = true := selects_self_of_private hf2 hkP hkPi hpriv (mvT hZ w7) hy
  obtain ⟨cq, qc1, qc2⟩ := E.cell
  obtain ⟨v, _, ⟨T2, L2, k2, n2⟩, -, X2, ⟨Lc2, hQ2, l2, y2', z2⟩, st2⟩ := X.privateBack hx (y := y) hown (mvT hZ w1) (mvT hZ w7) hsel hpriv (mvT hZ w4) hy (backOf (W := W) hM hZ w4 w3 hfr hlo) (g := mkF m pc Ls st) rfl hsz (Steps.refl _) (a := a) (by rw [eT]; exact qc1) qc2 (argsL := argsL) (rest := rest) hlen hst (by show 2 * 0 + _ ≤ _; omega) hd (fun _ _ => ⟨has, eT, hce, hsl⟩)
  dsimp only [Pt.U, Pt.locs, Pt.cells, Pt.slots] at X2 l2 y2' z2 st2 hQ2
  subst l2 y2' z2
  exact ownVia (fun _ k => st2.trans k) (K v T2 Lc2 X2 hQ2)
theorem ownCast {own K' : String} {index : Nat} {a : Addr} (X : Stand p l e R s m args below meth c T locs cells slots) (hx : p.tables.exec = Jvm.exec) (hZ : Z.Warmed39 s.vm) (hown : s.vm.findClass own = some m.cls) (w : (Jvm.Cond.classLink own index K').before a0 Z = true) (eT : T.heap = h) (FI : Ins Z h a K' true) {pc : Nat} {Ls : Array Slot} {rest : List Value} (hd : decode c.code pc = .ok (.checkcast index, 3))
    (K : ∀ T', Stand p l e R s m args below meth c T' locs cells slots → T'.heap = h → ownFin p e below F Q (T'.setTop (mkF m (pc + 3) Ls (.ref a :: rest)))) : ownFin p e below F Q (T.setTop (mkF m pc Ls (.ref a :: rest))) := by
  obtain ⟨T', X', e', st⟩ := castY X hx hZ hown w eT FI (g := mkF m pc Ls (.ref a :: rest)) rfl rfl hd
  exact ownVia st (K T' X' e')
theorem own_clamp {j : Int32} {n : Nat} (h : j.toInt = (n : Int)) : j.toNatClampNeg = n := by
  show j.toInt.toNat = n
  rw [h]; rfl
theorem own_nneg {j : Int32} {n : Nat} (h : j.toInt = (n : Int)) : ¬ j < 0 := fun q => by
  have := Int32.lt_iff_toInt_lt.mp q
  have k0 : (0 : Int32).toInt = 0 := by decide
  omega
theorem ownCopy {own : String} {index : Nat} {a b : Addr} {k k' : ClassId} {ty : FieldType} {z z' sp dp nn : Int32} {vs vd : List Value} {dv dd : Value} {n0 : Nat} (X : Stand p l e R s m args below meth c T locs cells slots) (hx : p.tables.exec = Jvm.exec) (hZ : Z.Warmed39 s.vm) (hown : s.vm.findClass own = some m.cls)
    (w1 : (Jvm.Cond.methodLink own index Jvm.Stand.acN).before a0 Z = true) (w2 : (Jvm.Cond.native Jvm.Stand.acN).before a0 Z = true) (w3 : (Jvm.Cond.static Jvm.Stand.acN).before a0 Z = true) (w4 : (Jvm.Cond.initialized "java/lang/System").before a0 Z = true) (eT : T.heap = h)
    (A : Arv Z h a k ty z vs dv) (B : Arv Z h b k' ty z' vd dd) (hty : refKind ty = false) (i j n lz lz' : Nat) (hi : sp.toInt = (i : Int)) (hj : dp.toInt = (j : Int)) (hn : nn.toInt = (n : Int)) (hz : z.toInt = (lz : Int)) (hz' : z'.toInt = (lz' : Int)) (h4 : i + n ≤ lz) (h5 : j + n ≤ lz') (hl : j + n ≤ vd.length) (N : Fr n0 locs) (ge : n0 ≤ b)
    {pc : Nat} {Ls : Array Slot} {rest : List Value} (hsz : Ls.size = c.maxLocals) (hd : decode c.code pc = .ok (.invokestatic index, 3)) (hf : 1 ≤ R.frames) (W : Nat) (hW : (rest.map fun v => v.category).sum = W) (hlo : W + (nativeFrameWords "java/lang/System" "arraycopy" 5 + 11) ≤ R.locals)
    (K : ∀ T' h' L', Stand p l e R s m args below meth c T' L' cells slots → T'.heap = h' → Fr n0 L' → Keep h h' [b] → Arv Z h' b k' ty z' (vd.take j ++ ((List.range n).map fun x => vs.getD (i + x) dv) ++ vd.drop (j + n)) dd → ownFin p e below F Q (T'.setTop (mkF m (pc + 3) Ls rest))) :
    ownFin p e below F Q (T.setTop (mkF m pc Ls (.int nn :: .int dp :: .ref b :: .int sp :: .ref a :: rest))) := by
  have e1 := own_clamp hi
  have e2 := own_clamp hj
  have e3 := own_clamp hn
  have e4 := own_clamp hz
  have e5 := own_clamp hz'
  obtain ⟨T', h', L', X', e', N', K', B', st⟩ := cpA X hx hZ hown w1 w2 w3 w4 eT A B (Or.inl ⟨rfl, hty⟩) (own_nneg hi) (own_nneg hj) (own_nneg hn) (by omega) (by omega) rfl (by omega) N ge (g := mkF m pc Ls (.int nn :: .int dp :: .ref b :: .int sp :: .ref a :: rest)) rfl hsz rfl hd hf (W := W) (by show 2 * 0 + _ ≤ _; omega) hlo
  rw [e1, e2, e3] at B'
  exact ownVia st (K T' h' L' X' e' N' K' B')
theorem own_lti {a b : Int32} {x y : Int} (ha : a.toInt = x) (hb : b.toInt = y) : a < b ↔ x < y := by rw [Int32.lt_iff_toInt_lt, ha, hb]
theorem own_sub {a b : Int32} {i j : Nat} (ha : a.toInt = (i : Int)) (hb : b.toInt = (j : Int)) (h : j ≤ i) : (a - b).toInt = ((i - j : Nat) : Int) := by
  have h1 := c_isub a b
  have h2 := rng32 (a - b)
  have h3 := rng32 a
  have h4 := rng32 b
  omega
theorem own_add {a b : Int32} {i j : Nat} (ha : a.toInt = (i : Int)) (hb : b.toInt = (j : Int)) (h : i + j < 2147483648) : (a + b).toInt = ((i + j : Nat) : Int) := by
  have h1 := c_iadd a b
  have h2 := rng32 (a + b)
  omega
theorem own_nlt {a b : Int32} {i j : Int} (ha : a.toInt = i) (hb : b.toInt = j) (h : j ≤ i) : ¬ a < b := fun q => by
  have := (own_lti ha hb).mp q
  omega
theorem own_enum {args : Array Value} {C n d K : String} (hx : (Jvm.Cond.exactly (.static C n d) K).value args s none s [] = some true) (wi : (Jvm.Cond.initialized C).before args s = true) (wl : (Jvm.Cond.laysStatic C n d).before args s = true) :
    ∃ a, (Term.static C n d).eval args s none [] s = some (.ref a) ∧ Sta s s.heap C n d (.ref a) ∧ Exa s s.heap a K := by
  obtain ⟨a, ev⟩ := exa_v hx
  exact ⟨a, ev, Sta.start ev (Or.inr ⟨wi, wl⟩), Exa.start ev hx⟩
theorem own_eqv {args : Array Value} {t : Term} {k : Int32} (hf : (Jvm.Cond.eq t (.int k)).value args s none s [] = some true) : t.eval args s none [] s = some (.int k) := by
  cases hv : t.eval args s none [] s with
  | none => simp [Cond.value, hv] at hf
  | some v =>
    cases v <;> simp [Cond.value, hv, Term.eval] at hf
    rw [hf]
theorem own_efld {args : Array Value} {t : Term} {a : Addr} {C n d : String} {k : Int32} (ev : t.eval args s none [] s = some (.ref a)) (hf : (Jvm.Cond.eq (.field t C n d) (.int k)).value args s none s [] = some true) : Fld s s.heap a C n d (.int k) :=
  Fld.start ((fld_at ev).symm.trans (own_eqv hf))
theorem own_iff_f {A B P : Prop} (hA : ¬ A) (h : P ↔ A ∨ B) : P ↔ B := by simpa [hA] using h
theorem own_iff_t {A B P : Prop} (hA : A) (h : P ↔ A ∨ B) : P := h.mpr (Or.inl hA)
theorem own_ref_ne {a b : Addr} (h : a ≠ b) : ¬ (Value.ref a) = .ref b := fun q => h (by cases q; rfl)
theorem own_sz {n0 : Nat} {h' : Heap} (q : n0 ≤ h.size) (E : Ext h h') : n0 ≤ h'.size := Nat.le_trans q E.1
theorem own_szW {n0 : Nat} {h' : Heap} {a : Addr} {sl : Nat} {v : Value} (q : n0 ≤ h.size) (W : Wr h h' a sl v) : n0 ≤ h'.size := by rw [W.size]; exact q
theorem own_eqi {a b : Int32} {x y : Int} (ha : a.toInt = x) (hb : b.toInt = y) : a = b ↔ x = y := by rw [← Int32.toInt_inj, ha, hb]
theorem own_ltl {a b : Int64} {x y : Int} (ha : a.toInt = x) (hb : b.toInt = y) : a < b ↔ x < y := by rw [Int64.lt_iff_toInt_lt, ha, hb]
theorem own_eql {a b : Int64} {x y : Int} (ha : a.toInt = x) (hb : b.toInt = y) : a = b ↔ x = y := by rw [← Int64.toInt_inj, ha, hb]
theorem own_getD_map {α β : Type} (f : α → β) (d : α) (xs : List α) (n : Nat) : (xs.map f).getD n (f d) = f (xs.getD n d) := by
  simp only [List.getD_eq_getElem?_getD, List.getElem?_map]
  cases xs[n]? <;> rfl
theorem own_idx {j z : Int32} {zi : Int} (hz : z.toInt = zi) (h1 : 0 ≤ j.toInt) (h2 : j.toInt < zi) : ¬ j < 0 ∧ j < z := ⟨fun q => by have := (own_lti rfl (by decide : (0 : Int32).toInt = 0)).mp q; omega, Int32.lt_iff_toInt_lt.mpr (by rw [hz]; exact h2)⟩
end Own
def own_nsP (z : Int) : Prop := (65 ≤ z ∧ z ≤ 90) ∨ (97 ≤ z ∧ z ≤ 122) ∨ z = 95 ∨ z = 58 ∨ (192 ≤ z ∧ z ≤ 214) ∨ (216 ≤ z ∧ z ≤ 246) ∨ (248 ≤ z ∧ z ≤ 767) ∨ (880 ≤ z ∧ z ≤ 893) ∨ (895 ≤ z ∧ z ≤ 8191) ∨ (8204 ≤ z ∧ z ≤ 8205) ∨ (8304 ≤ z ∧ z ≤ 8591) ∨ (11264 ≤ z ∧ z ≤ 12271) ∨ (12289 ≤ z ∧ z ≤ 55295) ∨ (63744 ≤ z ∧ z ≤ 64975) ∨ (65008 ≤ z ∧ z ≤ 65533) ∨ (65536 ≤ z ∧ z ≤ 983039)
def own_nameP (z : Int) : Prop := own_nsP z ∨ z = 45 ∨ (48 ≤ z ∧ z ≤ 57) ∨ z = 183 ∨ (768 ≤ z ∧ z ≤ 879) ∨ (8255 ≤ z ∧ z ≤ 8256)
theorem own_r0 {z : Int} (h1 : -2147483648 ≤ z) (h2 : z < 45) : ¬ own_nameP z := by
  unfold own_nameP own_nsP
  omega
theorem own_r1 {z : Int} (h1 : 45 ≤ z) (h2 : z < 46) : own_nameP z := by
  unfold own_nameP own_nsP
  omega
theorem own_r2 {z : Int} (h1 : 46 ≤ z) (h2 : z < 48) : ¬ own_nameP z := by
  unfold own_nameP own_nsP
  omega
theorem own_r3 {z : Int} (h1 : 48 ≤ z) (h2 : z < 59) : own_nameP z := by
  unfold own_nameP own_nsP
  omega
theorem own_r4 {z : Int} (h1 : 59 ≤ z) (h2 : z < 65) : ¬ own_nameP z := by
  unfold own_nameP own_nsP
  omega
theorem own_r5 {z : Int} (h1 : 65 ≤ z) (h2 : z < 91) : own_nameP z := by
  unfold own_nameP own_nsP
  omega
theorem own_r6 {z : Int} (h1 : 91 ≤ z) (h2 : z < 95) : ¬ own_nameP z := by
  unfold own_nameP own_nsP
  omega
theorem own_r7 {z : Int} (h1 : 95 ≤ z) (h2 : z < 96) : own_nameP z := by
  unfold own_nameP own_nsP
  omega
theorem own_r8 {z : Int} (h1 : 96 ≤ z) (h2 : z < 97) : ¬ own_nameP z := by
  unfold own_nameP own_nsP
  omega
theorem own_r9 {z : Int} (h1 : 97 ≤ z) (h2 : z < 123) : own_nameP z := by
  unfold own_nameP own_nsP
  omega
theorem own_r10 {z : Int} (h1 : 123 ≤ z) (h2 : z < 183) : ¬ own_nameP z := by
  unfold own_nameP own_nsP
  omega
theorem own_r11 {z : Int} (h1 : 183 ≤ z) (h2 : z < 184) : own_nameP z := by
  unfold own_nameP own_nsP
  omega
theorem own_r12 {z : Int} (h1 : 184 ≤ z) (h2 : z < 192) : ¬ own_nameP z := by
  unfold own_nameP own_nsP
  omega
theorem own_r13 {z : Int} (h1 : 192 ≤ z) (h2 : z < 215) : own_nameP z := by
  unfold own_nameP own_nsP
  omega
theorem own_r14 {z : Int} (h1 : 215 ≤ z) (h2 : z < 216) : ¬ own_nameP z := by
  unfold own_nameP own_nsP
  omega
theorem own_r15 {z : Int} (h1 : 216 ≤ z) (h2 : z < 247) : own_nameP z := by
  unfold own_nameP own_nsP
  omega
theorem own_r16 {z : Int} (h1 : 247 ≤ z) (h2 : z < 248) : ¬ own_nameP z := by
  unfold own_nameP own_nsP
  omega
theorem own_r17 {z : Int} (h1 : 248 ≤ z) (h2 : z < 894) : own_nameP z := by
  unfold own_nameP own_nsP
  omega
theorem own_r18 {z : Int} (h1 : 894 ≤ z) (h2 : z < 895) : ¬ own_nameP z := by
  unfold own_nameP own_nsP
  omega
theorem own_r19 {z : Int} (h1 : 895 ≤ z) (h2 : z < 8192) : own_nameP z := by
  unfold own_nameP own_nsP
  omega
theorem own_r20 {z : Int} (h1 : 8192 ≤ z) (h2 : z < 8204) : ¬ own_nameP z := by
  unfold own_nameP own_nsP
  omega
theorem own_r21 {z : Int} (h1 : 8204 ≤ z) (h2 : z < 8206) : own_nameP z := by
  unfold own_nameP own_nsP
  omega
theorem own_r22 {z : Int} (h1 : 8206 ≤ z) (h2 : z < 8255) : ¬ own_nameP z := by
  unfold own_nameP own_nsP
  omega
theorem own_r23 {z : Int} (h1 : 8255 ≤ z) (h2 : z < 8257) : own_nameP z := by
  unfold own_nameP own_nsP
  omega
theorem own_r24 {z : Int} (h1 : 8257 ≤ z) (h2 : z < 8304) : ¬ own_nameP z := by
  unfold own_nameP own_nsP
  omega
theorem own_r25 {z : Int} (h1 : 8304 ≤ z) (h2 : z < 8592) : own_nameP z := by
  unfold own_nameP own_nsP
  omega
theorem own_r26 {z : Int} (h1 : 8592 ≤ z) (h2 : z < 11264) : ¬ own_nameP z := by
  unfold own_nameP own_nsP
  omega
theorem own_r27 {z : Int} (h1 : 11264 ≤ z) (h2 : z < 12272) : own_nameP z := by
  unfold own_nameP own_nsP
  omega
theorem own_r28 {z : Int} (h1 : 12272 ≤ z) (h2 : z < 12289) : ¬ own_nameP z := by
  unfold own_nameP own_nsP
  omega
theorem own_r29 {z : Int} (h1 : 12289 ≤ z) (h2 : z < 55296) : own_nameP z := by
  unfold own_nameP own_nsP
  omega
theorem own_r30 {z : Int} (h1 : 55296 ≤ z) (h2 : z < 63744) : ¬ own_nameP z := by
  unfold own_nameP own_nsP
  omega
theorem own_r31 {z : Int} (h1 : 63744 ≤ z) (h2 : z < 64976) : own_nameP z := by
  unfold own_nameP own_nsP
  omega
theorem own_r32 {z : Int} (h1 : 64976 ≤ z) (h2 : z < 65008) : ¬ own_nameP z := by
  unfold own_nameP own_nsP
  omega
theorem own_r33 {z : Int} (h1 : 65008 ≤ z) (h2 : z < 65534) : own_nameP z := by
  unfold own_nameP own_nsP
  omega
theorem own_r34 {z : Int} (h1 : 65534 ≤ z) (h2 : z < 65536) : ¬ own_nameP z := by
  unfold own_nameP own_nsP
  omega
theorem own_r35 {z : Int} (h1 : 65536 ≤ z) (h2 : z < 983040) : own_nameP z := by
  unfold own_nameP own_nsP
  omega
theorem own_r36 {z : Int} (h1 : 983040 ≤ z) (h2 : z < 2147483648) : ¬ own_nameP z := by
  unfold own_nameP own_nsP
  omega
def own_ns (q v : Int32) : Prop := (v = 1 ∧ own_nsP q.toInt) ∨ (v = 0 ∧ ¬ own_nsP q.toInt)
def own_nc (q v : Int32) : Prop := (v = 1 ∧ own_nameP q.toInt) ∨ (v = 0 ∧ ¬ own_nameP q.toInt)
def own_btab : List Int64 := [-2147483648, 45, 46, 48, 59, 65, 91, 95, 96, 97, 123, 183, 184, 192, 215, 216, 247, 248, 894, 895, 8192, 8204, 8206, 8255, 8257, 8304, 8592, 11264, 12272, 12289, 55296, 63744, 64976, 65008, 65534, 65536, 983040, 2147483648]
def own_b (n : Nat) : Int64 := own_btab.getD n 0
theorem own_bok : ∀ n, n < 37 → -2147483648 ≤ (own_b n).toInt ∧ (own_b n).toInt < (own_b (n + 1)).toInt ∧ (own_b (n + 1)).toInt ≤ 2147483648 := by decide
theorem own_bv0 : (own_b 0).toInt = -2147483648 := by decide
theorem own_bv1 : (own_b 1).toInt = 45 := by decide
theorem own_bv2 : (own_b 2).toInt = 46 := by decide
theorem own_bv3 : (own_b 3).toInt = 48 := by decide
theorem own_bv4 : (own_b 4).toInt = 59 := by decide
theorem own_bv5 : (own_b 5).toInt = 65 := by decide
theorem own_bv6 : (own_b 6).toInt = 91 := by decide
theorem own_bv7 : (own_b 7).toInt = 95 := by decide
theorem own_bv8 : (own_b 8).toInt = 96 := by decide
theorem own_bv9 : (own_b 9).toInt = 97 := by decide
theorem own_bv10 : (own_b 10).toInt = 123 := by decide
theorem own_bv11 : (own_b 11).toInt = 183 := by decide
theorem own_bv12 : (own_b 12).toInt = 184 := by decide
theorem own_bv13 : (own_b 13).toInt = 192 := by decide
theorem own_bv14 : (own_b 14).toInt = 215 := by decide
theorem own_bv15 : (own_b 15).toInt = 216 := by decide
theorem own_bv16 : (own_b 16).toInt = 247 := by decide
theorem own_bv17 : (own_b 17).toInt = 248 := by decide
theorem own_bv18 : (own_b 18).toInt = 894 := by decide
theorem own_bv19 : (own_b 19).toInt = 895 := by decide
theorem own_bv20 : (own_b 20).toInt = 8192 := by decide
theorem own_bv21 : (own_b 21).toInt = 8204 := by decide
theorem own_bv22 : (own_b 22).toInt = 8206 := by decide
theorem own_bv23 : (own_b 23).toInt = 8255 := by decide
theorem own_bv24 : (own_b 24).toInt = 8257 := by decide
theorem own_bv25 : (own_b 25).toInt = 8304 := by decide
theorem own_bv26 : (own_b 26).toInt = 8592 := by decide
theorem own_bv27 : (own_b 27).toInt = 11264 := by decide
theorem own_bv28 : (own_b 28).toInt = 12272 := by decide
theorem own_bv29 : (own_b 29).toInt = 12289 := by decide
theorem own_bv30 : (own_b 30).toInt = 55296 := by decide
theorem own_bv31 : (own_b 31).toInt = 63744 := by decide
theorem own_bv32 : (own_b 32).toInt = 64976 := by decide
theorem own_bv33 : (own_b 33).toInt = 65008 := by decide
theorem own_bv34 : (own_b 34).toInt = 65534 := by decide
theorem own_bv35 : (own_b 35).toInt = 65536 := by decide
theorem own_bv36 : (own_b 36).toInt = 983040 := by decide
theorem own_bv37 : (own_b 37).toInt = 2147483648 := by decide
theorem own_reg {n : Nat} (hn : n < 37) {z : Int} (h1 : (own_b n).toInt ≤ z) (h2 : z < (own_b (n + 1)).toInt) : own_nameP z ↔ n % 2 = 1 := by
  have hs : n = 0 ∨ n = 1 ∨ n = 2 ∨ n = 3 ∨ n = 4 ∨ n = 5 ∨ n = 6 ∨ n = 7 ∨ n = 8 ∨ n = 9 ∨ n = 10 ∨ n = 11 ∨ n = 12 ∨ n = 13 ∨ n = 14 ∨ n = 15 ∨ n = 16 ∨ n = 17 ∨ n = 18 ∨ n = 19 ∨ n = 20 ∨ n = 21 ∨ n = 22 ∨ n = 23 ∨ n = 24 ∨ n = 25 ∨ n = 26 ∨ n = 27 ∨ n = 28 ∨ n = 29 ∨ n = 30 ∨ n = 31 ∨ n = 32 ∨ n = 33 ∨ n = 34 ∨ n = 35 ∨ n = 36 := by omega
  rcases hs with rfl | rfl | rfl | rfl | rfl | rfl | rfl | rfl | rfl | rfl | rfl | rfl | rfl | rfl | rfl | rfl | rfl | rfl | rfl | rfl | rfl | rfl | rfl | rfl | rfl | rfl | rfl | rfl | rfl | rfl | rfl | rfl | rfl | rfl | rfl | rfl | rfl
  · rw [own_bv0] at h1; rw [own_bv1] at h2; exact iff_of_false (own_r0 h1 h2) (by decide)
  · rw [own_bv1] at h1; rw [own_bv2] at h2; exact iff_of_true (own_r1 h1 h2) rfl
  · rw [own_bv2] at h1; rw [own_bv3] at h2; exact iff_of_false (own_r2 h1 h2) (by decide)
  · rw [own_bv3] at h1; rw [own_bv4] at h2; exact iff_of_true (own_r3 h1 h2) rfl
  · rw [own_bv4] at h1; rw [own_bv5] at h2; exact iff_of_false (own_r4 h1 h2) (by decide)
  · rw [own_bv5] at h1; rw [own_bv6] at h2; exact iff_of_true (own_r5 h1 h2) rfl
  · rw [own_bv6] at h1; rw [own_bv7] at h2; exact iff_of_false (own_r6 h1 h2) (by decide)
  · rw [own_bv7] at h1; rw [own_bv8] at h2; exact iff_of_true (own_r7 h1 h2) rfl
  · rw [own_bv8] at h1; rw [own_bv9] at h2; exact iff_of_false (own_r8 h1 h2) (by decide)
  · rw [own_bv9] at h1; rw [own_bv10] at h2; exact iff_of_true (own_r9 h1 h2) rfl
  · rw [own_bv10] at h1; rw [own_bv11] at h2; exact iff_of_false (own_r10 h1 h2) (by decide)
  · rw [own_bv11] at h1; rw [own_bv12] at h2; exact iff_of_true (own_r11 h1 h2) rfl
  · rw [own_bv12] at h1; rw [own_bv13] at h2; exact iff_of_false (own_r12 h1 h2) (by decide)
  · rw [own_bv13] at h1; rw [own_bv14] at h2; exact iff_of_true (own_r13 h1 h2) rfl
  · rw [own_bv14] at h1; rw [own_bv15] at h2; exact iff_of_false (own_r14 h1 h2) (by decide)
  · rw [own_bv15] at h1; rw [own_bv16] at h2; exact iff_of_true (own_r15 h1 h2) rfl
  · rw [own_bv16] at h1; rw [own_bv17] at h2; exact iff_of_false (own_r16 h1 h2) (by decide)
  · rw [own_bv17] at h1; rw [own_bv18] at h2; exact iff_of_true (own_r17 h1 h2) rfl
  · rw [own_bv18] at h1; rw [own_bv19] at h2; exact iff_of_false (own_r18 h1 h2) (by decide)
  · rw [own_bv19] at h1; rw [own_bv20] at h2; exact iff_of_true (own_r19 h1 h2) rfl
  · rw [own_bv20] at h1; rw [own_bv21] at h2; exact iff_of_false (own_r20 h1 h2) (by decide)
  · rw [own_bv21] at h1; rw [own_bv22] at h2; exact iff_of_true (own_r21 h1 h2) rfl
  · rw [own_bv22] at h1; rw [own_bv23] at h2; exact iff_of_false (own_r22 h1 h2) (by decide)
  · rw [own_bv23] at h1; rw [own_bv24] at h2; exact iff_of_true (own_r23 h1 h2) rfl
  · rw [own_bv24] at h1; rw [own_bv25] at h2; exact iff_of_false (own_r24 h1 h2) (by decide)
  · rw [own_bv25] at h1; rw [own_bv26] at h2; exact iff_of_true (own_r25 h1 h2) rfl
  · rw [own_bv26] at h1; rw [own_bv27] at h2; exact iff_of_false (own_r26 h1 h2) (by decide)
  · rw [own_bv27] at h1; rw [own_bv28] at h2; exact iff_of_true (own_r27 h1 h2) rfl
  · rw [own_bv28] at h1; rw [own_bv29] at h2; exact iff_of_false (own_r28 h1 h2) (by decide)
  · rw [own_bv29] at h1; rw [own_bv30] at h2; exact iff_of_true (own_r29 h1 h2) rfl
  · rw [own_bv30] at h1; rw [own_bv31] at h2; exact iff_of_false (own_r30 h1 h2) (by decide)
  · rw [own_bv31] at h1; rw [own_bv32] at h2; exact iff_of_true (own_r31 h1 h2) rfl
  · rw [own_bv32] at h1; rw [own_bv33] at h2; exact iff_of_false (own_r32 h1 h2) (by decide)
  · rw [own_bv33] at h1; rw [own_bv34] at h2; exact iff_of_true (own_r33 h1 h2) rfl
  · rw [own_bv34] at h1; rw [own_bv35] at h2; exact iff_of_false (own_r34 h1 h2) (by decide)
  · rw [own_bv35] at h1; rw [own_bv36] at h2; exact iff_of_true (own_r35 h1 h2) rfl
  · rw [own_bv36] at h1; rw [own_bv37] at h2; exact iff_of_false (own_r36 h1 h2) (by decide)
theorem own_at {n : Nat} (hn : n < 37) {z : Int64} (h1 : (own_b n).toInt ≤ z.toInt) (h2 : z.toInt < (own_b (n + 1)).toInt) {v k : Int32} (hk : (k = 1 ∧ n % 2 = 1) ∨ (k = 0 ∧ ¬ n % 2 = 1)) (h : own_nc z.toInt32 v) : v = k := by
  have a := own_bok n hn
  have b := c_l2i z
  have d := rng32 z.toInt32
  have e : z.toInt32.toInt = z.toInt := by omega
  have f := own_reg hn h1 h2
  unfold own_nc at h
  rw [e, f] at h
  rcases h with ⟨rfl, h⟩ | ⟨rfl, h⟩ <;> rcases hk with ⟨rfl, q⟩ | ⟨rfl, q⟩ <;> first | rfl | exact absurd h q | exact absurd q h
theorem own_iv (q : Int32) : 0 ≤ ((q &&& (2147483647 : Int32)) % (37 : Int32)).toInt ∧ ((q &&& (2147483647 : Int32)) % (37 : Int32)).toInt < 37 := by
  have a := c_mask q 2147483647 31 (by decide) (by decide)
  have b := (c_irem (q &&& (2147483647 : Int32)) 37 37 (by decide)).1 (by omega)
  omega
theorem own_cc {n : Nat} (hn : n < 37) (q : Int32) {lo hi : Int64} (hlo : lo = own_b n) (hhi : hi = own_b (n + 1)) :
    ¬ (hi - lo = (0 : Int64)) ∧ lo.toInt ≤ (hi - (1 : Int64)).toInt ∧ (hi - (1 : Int64)).toInt < hi.toInt ∧ lo.toInt ≤ (lo + ((q.toInt64 &&& (4294967295 : Int64)) - ((q.toInt64 &&& (4294967295 : Int64)) / (hi - lo)) * (hi - lo))).toInt ∧ (lo + ((q.toInt64 &&& (4294967295 : Int64)) - ((q.toInt64 &&& (4294967295 : Int64)) / (hi - lo)) * (hi - lo))).toInt < hi.toInt := by
  have a := own_bok n hn
  subst hlo; subst hhi
  have k1 : (1 : Int64).toInt = 1 := by decide
  have k0 : (0 : Int64).toInt = 0 := by decide
  have s1 := c_lsub (own_b (n + 1)) 1
  have s2 := c_lsub (own_b (n + 1)) (own_b n)
  have r1 := rng64 (own_b (n + 1) - 1)
  have r2 := rng64 (own_b (n + 1) - own_b n)
  rw [k1] at s1
  have d1 : (own_b (n + 1) - own_b n).toInt = (own_b (n + 1)).toInt - (own_b n).toInt := by omega
  have mm := c_maskL q.toInt64 4294967295 32 (by decide) (by decide)
  have m1 : 0 ≤ (q.toInt64 &&& (4294967295 : Int64)).toInt := by omega
  have lr := (c_lrem (q.toInt64 &&& (4294967295 : Int64)) (own_b (n + 1) - own_b n) _ d1).1 m1
  have e1 := Int.emod_nonneg (q.toInt64 &&& (4294967295 : Int64)).toInt (b := (own_b (n + 1)).toInt - (own_b n).toInt) (by omega)
  have e2 := Int.emod_lt_of_pos (q.toInt64 &&& (4294967295 : Int64)).toInt (b := (own_b (n + 1)).toInt - (own_b n).toInt) (by omega)
  rw [← lr] at e1 e2
  have s3 := c_ladd (own_b n) ((q.toInt64 &&& (4294967295 : Int64)) - ((q.toInt64 &&& (4294967295 : Int64)) / (own_b (n + 1) - own_b n)) * (own_b (n + 1) - own_b n))
  have r3 := rng64 (own_b n + ((q.toInt64 &&& (4294967295 : Int64)) - ((q.toInt64 &&& (4294967295 : Int64)) / (own_b (n + 1) - own_b n)) * (own_b (n + 1) - own_b n)))
  refine ⟨fun z => ?_, by omega, by omega, by omega, by omega⟩
  have := congrArg Int64.toInt z
  omega
theorem d2_0 : decode prog_31_method_4_code 0 = .ok (.iload_n 0, 1) := by decide +kernel
theorem d2_1 : decode prog_31_method_4_code 1 = .ok (.bipush 65, 2) := by decide +kernel
theorem d2_3 : decode prog_31_method_4_code 3 = .ok (.if_icmp .lt 9, 3) := by decide +kernel
theorem d2_6 : decode prog_31_method_4_code 6 = .ok (.iload_n 0, 1) := by decide +kernel
theorem d2_7 : decode prog_31_method_4_code 7 = .ok (.bipush 90, 2) := by decide +kernel
theorem d2_9 : decode prog_31_method_4_code 9 = .ok (.if_icmp .le 188, 3) := by decide +kernel
theorem d2_12 : decode prog_31_method_4_code 12 = .ok (.iload_n 0, 1) := by decide +kernel
theorem d2_13 : decode prog_31_method_4_code 13 = .ok (.bipush 97, 2) := by decide +kernel
theorem d2_15 : decode prog_31_method_4_code 15 = .ok (.if_icmp .lt 9, 3) := by decide +kernel
theorem d2_18 : decode prog_31_method_4_code 18 = .ok (.iload_n 0, 1) := by decide +kernel
theorem d2_19 : decode prog_31_method_4_code 19 = .ok (.bipush 122, 2) := by decide +kernel
theorem d2_21 : decode prog_31_method_4_code 21 = .ok (.if_icmp .le 176, 3) := by decide +kernel
theorem d2_24 : decode prog_31_method_4_code 24 = .ok (.iload_n 0, 1) := by decide +kernel
theorem d2_25 : decode prog_31_method_4_code 25 = .ok (.bipush 95, 2) := by decide +kernel
theorem d2_27 : decode prog_31_method_4_code 27 = .ok (.if_icmp .eq 170, 3) := by decide +kernel
theorem d2_30 : decode prog_31_method_4_code 30 = .ok (.iload_n 0, 1) := by decide +kernel
theorem d2_31 : decode prog_31_method_4_code 31 = .ok (.bipush 58, 2) := by decide +kernel
theorem d2_33 : decode prog_31_method_4_code 33 = .ok (.if_icmp .eq 164, 3) := by decide +kernel
theorem d2_36 : decode prog_31_method_4_code 36 = .ok (.iload_n 0, 1) := by decide +kernel
theorem d2_37 : decode prog_31_method_4_code 37 = .ok (.sipush 192, 3) := by decide +kernel
theorem d2_40 : decode prog_31_method_4_code 40 = .ok (.if_icmp .lt 10, 3) := by decide +kernel
theorem d2_43 : decode prog_31_method_4_code 43 = .ok (.iload_n 0, 1) := by decide +kernel
theorem d2_44 : decode prog_31_method_4_code 44 = .ok (.sipush 214, 3) := by decide +kernel
theorem d2_47 : decode prog_31_method_4_code 47 = .ok (.if_icmp .le 150, 3) := by decide +kernel
theorem d2_50 : decode prog_31_method_4_code 50 = .ok (.iload_n 0, 1) := by decide +kernel
theorem d2_51 : decode prog_31_method_4_code 51 = .ok (.sipush 216, 3) := by decide +kernel
theorem d2_54 : decode prog_31_method_4_code 54 = .ok (.if_icmp .lt 10, 3) := by decide +kernel
theorem d2_57 : decode prog_31_method_4_code 57 = .ok (.iload_n 0, 1) := by decide +kernel
theorem d2_58 : decode prog_31_method_4_code 58 = .ok (.sipush 246, 3) := by decide +kernel
theorem d2_61 : decode prog_31_method_4_code 61 = .ok (.if_icmp .le 136, 3) := by decide +kernel
theorem d2_64 : decode prog_31_method_4_code 64 = .ok (.iload_n 0, 1) := by decide +kernel
theorem d2_65 : decode prog_31_method_4_code 65 = .ok (.sipush 248, 3) := by decide +kernel
theorem d2_68 : decode prog_31_method_4_code 68 = .ok (.if_icmp .lt 10, 3) := by decide +kernel
theorem d2_71 : decode prog_31_method_4_code 71 = .ok (.iload_n 0, 1) := by decide +kernel
theorem d2_72 : decode prog_31_method_4_code 72 = .ok (.sipush 767, 3) := by decide +kernel
theorem d2_75 : decode prog_31_method_4_code 75 = .ok (.if_icmp .le 122, 3) := by decide +kernel
theorem d2_78 : decode prog_31_method_4_code 78 = .ok (.iload_n 0, 1) := by decide +kernel
theorem d2_79 : decode prog_31_method_4_code 79 = .ok (.sipush 880, 3) := by decide +kernel
theorem d2_82 : decode prog_31_method_4_code 82 = .ok (.if_icmp .lt 10, 3) := by decide +kernel
theorem d2_85 : decode prog_31_method_4_code 85 = .ok (.iload_n 0, 1) := by decide +kernel
theorem d2_86 : decode prog_31_method_4_code 86 = .ok (.sipush 893, 3) := by decide +kernel
theorem d2_89 : decode prog_31_method_4_code 89 = .ok (.if_icmp .le 108, 3) := by decide +kernel
theorem d2_92 : decode prog_31_method_4_code 92 = .ok (.iload_n 0, 1) := by decide +kernel
theorem d2_93 : decode prog_31_method_4_code 93 = .ok (.sipush 895, 3) := by decide +kernel
theorem d2_96 : decode prog_31_method_4_code 96 = .ok (.if_icmp .lt 10, 3) := by decide +kernel
theorem d2_99 : decode prog_31_method_4_code 99 = .ok (.iload_n 0, 1) := by decide +kernel
theorem d2_100 : decode prog_31_method_4_code 100 = .ok (.sipush 8191, 3) := by decide +kernel
theorem d2_103 : decode prog_31_method_4_code 103 = .ok (.if_icmp .le 94, 3) := by decide +kernel
theorem d2_106 : decode prog_31_method_4_code 106 = .ok (.iload_n 0, 1) := by decide +kernel
theorem d2_107 : decode prog_31_method_4_code 107 = .ok (.sipush 8204, 3) := by decide +kernel
theorem d2_110 : decode prog_31_method_4_code 110 = .ok (.if_icmp .lt 10, 3) := by decide +kernel
theorem d2_113 : decode prog_31_method_4_code 113 = .ok (.iload_n 0, 1) := by decide +kernel
theorem d2_114 : decode prog_31_method_4_code 114 = .ok (.sipush 8205, 3) := by decide +kernel
theorem d2_117 : decode prog_31_method_4_code 117 = .ok (.if_icmp .le 80, 3) := by decide +kernel
theorem d2_120 : decode prog_31_method_4_code 120 = .ok (.iload_n 0, 1) := by decide +kernel
theorem d2_121 : decode prog_31_method_4_code 121 = .ok (.sipush 8304, 3) := by decide +kernel
theorem d2_124 : decode prog_31_method_4_code 124 = .ok (.if_icmp .lt 10, 3) := by decide +kernel
theorem d2_127 : decode prog_31_method_4_code 127 = .ok (.iload_n 0, 1) := by decide +kernel
theorem d2_128 : decode prog_31_method_4_code 128 = .ok (.sipush 8591, 3) := by decide +kernel
theorem d2_131 : decode prog_31_method_4_code 131 = .ok (.if_icmp .le 66, 3) := by decide +kernel
theorem d2_134 : decode prog_31_method_4_code 134 = .ok (.iload_n 0, 1) := by decide +kernel
theorem d2_135 : decode prog_31_method_4_code 135 = .ok (.sipush 11264, 3) := by decide +kernel
theorem d2_138 : decode prog_31_method_4_code 138 = .ok (.if_icmp .lt 10, 3) := by decide +kernel
theorem d2_141 : decode prog_31_method_4_code 141 = .ok (.iload_n 0, 1) := by decide +kernel
theorem d2_142 : decode prog_31_method_4_code 142 = .ok (.sipush 12271, 3) := by decide +kernel
theorem d2_145 : decode prog_31_method_4_code 145 = .ok (.if_icmp .le 52, 3) := by decide +kernel
theorem d2_148 : decode prog_31_method_4_code 148 = .ok (.iload_n 0, 1) := by decide +kernel
theorem d2_149 : decode prog_31_method_4_code 149 = .ok (.sipush 12289, 3) := by decide +kernel
theorem d2_152 : decode prog_31_method_4_code 152 = .ok (.if_icmp .lt 9, 3) := by decide +kernel
theorem d2_155 : decode prog_31_method_4_code 155 = .ok (.iload_n 0, 1) := by decide +kernel
theorem d2_156 : decode prog_31_method_4_code 156 = .ok (.ldc 95, 2) := by decide +kernel
theorem d2_158 : decode prog_31_method_4_code 158 = .ok (.if_icmp .le 39, 3) := by decide +kernel
theorem d2_161 : decode prog_31_method_4_code 161 = .ok (.iload_n 0, 1) := by decide +kernel
theorem d2_162 : decode prog_31_method_4_code 162 = .ok (.ldc 96, 2) := by decide +kernel
theorem d2_164 : decode prog_31_method_4_code 164 = .ok (.if_icmp .lt 9, 3) := by decide +kernel
theorem d2_167 : decode prog_31_method_4_code 167 = .ok (.iload_n 0, 1) := by decide +kernel
theorem d2_168 : decode prog_31_method_4_code 168 = .ok (.ldc 97, 2) := by decide +kernel
theorem d2_170 : decode prog_31_method_4_code 170 = .ok (.if_icmp .le 27, 3) := by decide +kernel
theorem d2_173 : decode prog_31_method_4_code 173 = .ok (.iload_n 0, 1) := by decide +kernel
theorem d2_174 : decode prog_31_method_4_code 174 = .ok (.ldc 98, 2) := by decide +kernel
theorem d2_176 : decode prog_31_method_4_code 176 = .ok (.if_icmp .lt 9, 3) := by decide +kernel
theorem d2_179 : decode prog_31_method_4_code 179 = .ok (.iload_n 0, 1) := by decide +kernel
theorem d2_180 : decode prog_31_method_4_code 180 = .ok (.ldc 99, 2) := by decide +kernel
theorem d2_182 : decode prog_31_method_4_code 182 = .ok (.if_icmp .le 15, 3) := by decide +kernel
theorem d2_185 : decode prog_31_method_4_code 185 = .ok (.iload_n 0, 1) := by decide +kernel
theorem d2_186 : decode prog_31_method_4_code 186 = .ok (.ldc 100, 2) := by decide +kernel
theorem d2_188 : decode prog_31_method_4_code 188 = .ok (.if_icmp .lt 13, 3) := by decide +kernel
theorem d2_191 : decode prog_31_method_4_code 191 = .ok (.iload_n 0, 1) := by decide +kernel
theorem d2_192 : decode prog_31_method_4_code 192 = .ok (.ldc 101, 2) := by decide +kernel
theorem d2_194 : decode prog_31_method_4_code 194 = .ok (.if_icmp .gt 7, 3) := by decide +kernel
theorem d2_197 : decode prog_31_method_4_code 197 = .ok (.iconst 1, 1) := by decide +kernel
theorem d2_198 : decode prog_31_method_4_code 198 = .ok (.goto 4, 3) := by decide +kernel
theorem d2_201 : decode prog_31_method_4_code 201 = .ok (.iconst 0, 1) := by decide +kernel
theorem d2_202 : decode prog_31_method_4_code 202 = .ok (.ireturn, 1) := by decide +kernel
theorem own_pn0 : plainName "com/example/lacuna/lacuna/rdf/BlankNode" = true := by first | (simp [plainName, overriddenIn]; done) | decide +kernel
theorem own_ef1 (m : MethodId) (p1 : Int32) : entryFrame m #[(.int p1)] 1 = mkF m 0 #[.val (.int p1)] [] := by first | (simp [entryFrame, mkF, argsToLocals, Value.category]; done) | rfl
def Q_own_nstart (Z : State) (p1 : Int32) (h0 : Heap) (n0 : Nat)  : Option Value → Heap → List Loc → Prop := fun v h L => Fr n0 L ∧ h = h0 ∧ ∃ r : Int32, v = some (.int r) ∧ own_ns p1 r
set_option maxRecDepth 65536 in
set_option maxHeartbeats 40000000 in
theorem own_nstart (l : Launch) (Z : State) (a0 : Array Value) (hw : ∀ d ∈ tables_1, d.before a0 Z = true)  (p1 : Int32) (h0 : Heap) (n0 : Nat)  (Z0 : n0 ≤ h0.size)  :
    ownMet l Z (⟨"com/example/lacuna/lacuna/rdf/BlankNode", "isNameStartChar", "(I)Z"⟩ : MethodName) prog_31_method_4_code 1 (some .boolean) [] ({ frames := 0, cells := 0, slots := 0, locals := 0 } : Room) #[(.int p1)] h0 (Q_own_nstart Z p1 h0 n0 ) := by
  refine ownBody (plainFor_of_name own_pn0) ?_
  intro p e s m below meth c T0 hx hby hml hret hlk hZ hown hnm X0 e0
  have N0 : Fr n0 [] := Fr.nil n0
  refine ownVia (fun _ k => castTop (own_ef1 m p1) k) ?_
  show ownFin _ _ _ _ _ (T0.setTop (mkF m 0 #[.val (.int p1)] []))
  have J197 : ∀ (hp : own_nsP p1.toInt), ownFin p e below (ownFE s ({ frames := 0, cells := 0, slots := 0, locals := 0 } : Room).cells ({ frames := 0, cells := 0, slots := 0, locals := 0 } : Room).slots) (Q_own_nstart Z p1 h0 n0 ) (T0.setTop (mkF m 197 #[.val (.int p1)] [])) := by
    intro hp
    show ownFin _ _ _ _ _ (T0.setTop (mkF m 197 #[.val (.int p1)] []))
    refine ownVia (fun _ k => XS.iconst X0.here hx rfl (hb hby d2_197) k) ?_
    show ownFin _ _ _ _ _ (T0.setTop (mkF m 198 #[.val (.int p1)] [(.int (1 : Int32))]))
    refine ownVia (fun _ k => XS.goto X0.here hx rfl (pc0 := 198) (pc' := 202) rfl (hb hby d2_198) (by decide) (by decide) k) ?_
    show ownFin _ _ _ _ _ (T0.setTop (mkF m 202 #[.val (.int p1)] [(.int (1 : Int32))]))
    refine ownRetZ X0 hx hlk hret (hb hby d2_202) (by decide) (by decide) (Or.inr rfl) ?_
    show (Q_own_nstart Z p1 h0 n0 ) (some (.int (1 : Int32))) T0.heap _
    rw [e0]
    exact ⟨N0, rfl, _, rfl, Or.inl ⟨rfl, hp⟩⟩
  have J201 : ∀ (hp : ¬ own_nsP p1.toInt), ownFin p e below (ownFE s ({ frames := 0, cells := 0, slots := 0, locals := 0 } : Room).cells ({ frames := 0, cells := 0, slots := 0, locals := 0 } : Room).slots) (Q_own_nstart Z p1 h0 n0 ) (T0.setTop (mkF m 201 #[.val (.int p1)] [])) := by
    intro hp
    show ownFin _ _ _ _ _ (T0.setTop (mkF m 201 #[.val (.int p1)] []))
    refine ownVia (fun _ k => XS.iconst X0.here hx rfl (hb hby d2_201) k) ?_
    show ownFin _ _ _ _ _ (T0.setTop (mkF m 202 #[.val (.int p1)] [(.int (0 : Int32))]))
    refine ownRetZ X0 hx hlk hret (hb hby d2_202) (by decide) (by decide) (Or.inl rfl) ?_
    show (Q_own_nstart Z p1 h0 n0 ) (some (.int (0 : Int32))) T0.heap _
    rw [e0]
    exact ⟨N0, rfl, _, rfl, Or.inr ⟨rfl, hp⟩⟩
  have J185 : ∀ (hq : own_nsP p1.toInt ↔ (65536 ≤ p1.toInt ∧ p1.toInt ≤ 983039)), ownFin p e below (ownFE s ({ frames := 0, cells := 0, slots := 0, locals := 0 } : Room).cells ({ frames := 0, cells := 0, slots := 0, locals := 0 } : Room).slots) (Q_own_nstart Z p1 h0 n0 ) (T0.setTop (mkF m 185 #[.val (.int p1)] [])) := by
    intro hq
    show ownFin _ _ _ _ _ (T0.setTop (mkF m 185 #[.val (.int p1)] []))
    refine ownVia (fun _ k => XS.iloadN X0.here hx rfl (hb hby d2_185) rfl k) ?_
    show ownFin _ _ _ _ _ (T0.setTop (mkF m 186 #[.val (.int p1)] [(.int p1)]))
    refine ownVia (fun _ k => X0.ldcInt hx hown (mvT hZ (hw _ (List.mem_of_getElem? (i := 50) rfl))) (g := (mkF m 186 #[.val (.int p1)] [(.int p1)])) rfl (hb hby d2_186) _ k) ?_
    show ownFin _ _ _ _ _ (T0.setTop (mkF m 188 #[.val (.int p1)] [(.int (65536 : Int32)), (.int p1)]))
    by_cases hc2 : p1 < (65536 : Int32)
    case pos =>
      have hc2I : p1.toInt < 65536 := (own_lti rfl (by decide)).mp hc2
      refine ownVia (fun _ k => XS.icmpYes X0.here hx rfl (pc0 := 188) (pc' := 201) rfl (hb hby d2_188) rfl (tlt hc2).1 (by decide) (by decide) k) ?_
      show ownFin _ _ _ _ _ (T0.setTop (mkF m 201 #[.val (.int p1)] []))
      exact J201 (fun z => absurd (hq.mp z) (by omega))
    case neg =>
      have hc2I : ¬ p1.toInt < 65536 := fun q => hc2 ((own_lti rfl (by decide)).mpr q)
      refine ownVia (fun _ k => XS.icmpNo X0.here hx rfl (hb hby d2_188) rfl (flt hc2).1 k) ?_
      show ownFin _ _ _ _ _ (T0.setTop (mkF m 191 #[.val (.int p1)] []))
      refine ownVia (fun _ k => XS.iloadN X0.here hx rfl (hb hby d2_191) rfl k) ?_
      show ownFin _ _ _ _ _ (T0.setTop (mkF m 192 #[.val (.int p1)] [(.int p1)]))
      refine ownVia (fun _ k => X0.ldcInt hx hown (mvT hZ (hw _ (List.mem_of_getElem? (i := 54) rfl))) (g := (mkF m 192 #[.val (.int p1)] [(.int p1)])) rfl (hb hby d2_192) _ k) ?_
      show ownFin _ _ _ _ _ (T0.setTop (mkF m 194 #[.val (.int p1)] [(.int (983039 : Int32)), (.int p1)]))
      by_cases hc3 : (983039 : Int32) < p1
      case pos =>
        have hc3I : 983039 < p1.toInt := (own_lti (by decide) rfl).mp hc3
        refine ownVia (fun _ k => XS.icmpYes X0.here hx rfl (pc0 := 194) (pc' := 201) rfl (hb hby d2_194) rfl (tlt hc3).2.2.1 (by decide) (by decide) k) ?_
        show ownFin _ _ _ _ _ (T0.setTop (mkF m 201 #[.val (.int p1)] []))
        exact J201 (fun z => absurd (hq.mp z) (by omega))
      case neg =>
        have hc3I : ¬ 983039 < p1.toInt := fun q => hc3 ((own_lti (by decide) rfl).mpr q)
        refine ownVia (fun _ k => XS.icmpNo X0.here hx rfl (hb hby d2_194) rfl (flt hc3).2.2.1 k) ?_
        show ownFin _ _ _ _ _ (T0.setTop (mkF m 197 #[.val (.int p1)] []))
        exact J197 (hq.mpr (by omega))
  have J173 : ∀ (hq : own_nsP p1.toInt ↔ (65008 ≤ p1.toInt ∧ p1.toInt ≤ 65533) ∨ (65536 ≤ p1.toInt ∧ p1.toInt ≤ 983039)), ownFin p e below (ownFE s ({ frames := 0, cells := 0, slots := 0, locals := 0 } : Room).cells ({ frames := 0, cells := 0, slots := 0, locals := 0 } : Room).slots) (Q_own_nstart Z p1 h0 n0 ) (T0.setTop (mkF m 173 #[.val (.int p1)] [])) := by
    intro hq
    show ownFin _ _ _ _ _ (T0.setTop (mkF m 173 #[.val (.int p1)] []))
    refine ownVia (fun _ k => XS.iloadN X0.here hx rfl (hb hby d2_173) rfl k) ?_
    show ownFin _ _ _ _ _ (T0.setTop (mkF m 174 #[.val (.int p1)] [(.int p1)]))
    refine ownVia (fun _ k => X0.ldcInt hx hown (mvT hZ (hw _ (List.mem_of_getElem? (i := 49) rfl))) (g := (mkF m 174 #[.val (.int p1)] [(.int p1)])) rfl (hb hby d2_174) _ k) ?_
    show ownFin _ _ _ _ _ (T0.setTop (mkF m 176 #[.val (.int p1)] [(.int (65008 : Int32)), (.int p1)]))
    by_cases hc4 : p1 < (65008 : Int32)
    case pos =>
      have hc4I : p1.toInt < 65008 := (own_lti rfl (by decide)).mp hc4
      refine ownVia (fun _ k => XS.icmpYes X0.here hx rfl (pc0 := 176) (pc' := 185) rfl (hb hby d2_176) rfl (tlt hc4).1 (by decide) (by decide) k) ?_
      show ownFin _ _ _ _ _ (T0.setTop (mkF m 185 #[.val (.int p1)] []))
      exact J185 (own_iff_f (by omega) hq)
    case neg =>
      have hc4I : ¬ p1.toInt < 65008 := fun q => hc4 ((own_lti rfl (by decide)).mpr q)
      refine ownVia (fun _ k => XS.icmpNo X0.here hx rfl (hb hby d2_176) rfl (flt hc4).1 k) ?_
      show ownFin _ _ _ _ _ (T0.setTop (mkF m 179 #[.val (.int p1)] []))
      refine ownVia (fun _ k => XS.iloadN X0.here hx rfl (hb hby d2_179) rfl k) ?_
      show ownFin _ _ _ _ _ (T0.setTop (mkF m 180 #[.val (.int p1)] [(.int p1)]))
      refine ownVia (fun _ k => X0.ldcInt hx hown (mvT hZ (hw _ (List.mem_of_getElem? (i := 53) rfl))) (g := (mkF m 180 #[.val (.int p1)] [(.int p1)])) rfl (hb hby d2_180) _ k) ?_
      show ownFin _ _ _ _ _ (T0.setTop (mkF m 182 #[.val (.int p1)] [(.int (65533 : Int32)), (.int p1)]))
      by_cases hc5 : (65533 : Int32) < p1
      case pos =>
        have hc5I : 65533 < p1.toInt := (own_lti (by decide) rfl).mp hc5
        refine ownVia (fun _ k => XS.icmpNo X0.here hx rfl (hb hby d2_182) rfl (tlt hc5).2.2.2 k) ?_
        show ownFin _ _ _ _ _ (T0.setTop (mkF m 185 #[.val (.int p1)] []))
        exact J185 (own_iff_f (by omega) hq)
      case neg =>
        have hc5I : ¬ 65533 < p1.toInt := fun q => hc5 ((own_lti (by decide) rfl).mpr q)
        refine ownVia (fun _ k => XS.icmpYes X0.here hx rfl (pc0 := 182) (pc' := 197) rfl (hb hby d2_182) rfl (flt hc5).2.2.2 (by decide) (by decide) k) ?_
        show ownFin _ _ _ _ _ (T0.setTop (mkF m 197 #[.val (.int p1)] []))
        exact J197 (own_iff_t (by omega) hq)
  have J161 : ∀ (hq : own_nsP p1.toInt ↔ (63744 ≤ p1.toInt ∧ p1.toInt ≤ 64975) ∨ (65008 ≤ p1.toInt ∧ p1.toInt ≤ 65533) ∨ (65536 ≤ p1.toInt ∧ p1.toInt ≤ 983039)), ownFin p e below (ownFE s ({ frames := 0, cells := 0, slots := 0, locals := 0 } : Room).cells ({ frames := 0, cells := 0, slots := 0, locals := 0 } : Room).slots) (Q_own_nstart Z p1 h0 n0 ) (T0.setTop (mkF m 161 #[.val (.int p1)] [])) := by
    intro hq
    show ownFin _ _ _ _ _ (T0.setTop (mkF m 161 #[.val (.int p1)] []))
    refine ownVia (fun _ k => XS.iloadN X0.here hx rfl (hb hby d2_161) rfl k) ?_
    show ownFin _ _ _ _ _ (T0.setTop (mkF m 162 #[.val (.int p1)] [(.int p1)]))
    refine ownVia (fun _ k => X0.ldcInt hx hown (mvT hZ (hw _ (List.mem_of_getElem? (i := 48) rfl))) (g := (mkF m 162 #[.val (.int p1)] [(.int p1)])) rfl (hb hby d2_162) _ k) ?_
    show ownFin _ _ _ _ _ (T0.setTop (mkF m 164 #[.val (.int p1)] [(.int (63744 : Int32)), (.int p1)]))
    by_cases hc6 : p1 < (63744 : Int32)
    case pos =>
      have hc6I : p1.toInt < 63744 := (own_lti rfl (by decide)).mp hc6
      refine ownVia (fun _ k => XS.icmpYes X0.here hx rfl (pc0 := 164) (pc' := 173) rfl (hb hby d2_164) rfl (tlt hc6).1 (by decide) (by decide) k) ?_
      show ownFin _ _ _ _ _ (T0.setTop (mkF m 173 #[.val (.int p1)] []))
      exact J173 (own_iff_f (by omega) hq)
    case neg =>
      have hc6I : ¬ p1.toInt < 63744 := fun q => hc6 ((own_lti rfl (by decide)).mpr q)
      refine ownVia (fun _ k => XS.icmpNo X0.here hx rfl (hb hby d2_164) rfl (flt hc6).1 k) ?_
      show ownFin _ _ _ _ _ (T0.setTop (mkF m 167 #[.val (.int p1)] []))
      refine ownVia (fun _ k => XS.iloadN X0.here hx rfl (hb hby d2_167) rfl k) ?_
      show ownFin _ _ _ _ _ (T0.setTop (mkF m 168 #[.val (.int p1)] [(.int p1)]))
      refine ownVia (fun _ k => X0.ldcInt hx hown (mvT hZ (hw _ (List.mem_of_getElem? (i := 52) rfl))) (g := (mkF m 168 #[.val (.int p1)] [(.int p1)])) rfl (hb hby d2_168) _ k) ?_
      show ownFin _ _ _ _ _ (T0.setTop (mkF m 170 #[.val (.int p1)] [(.int (64975 : Int32)), (.int p1)]))
      by_cases hc7 : (64975 : Int32) < p1
      case pos =>
        have hc7I : 64975 < p1.toInt := (own_lti (by decide) rfl).mp hc7
        refine ownVia (fun _ k => XS.icmpNo X0.here hx rfl (hb hby d2_170) rfl (tlt hc7).2.2.2 k) ?_
        show ownFin _ _ _ _ _ (T0.setTop (mkF m 173 #[.val (.int p1)] []))
        exact J173 (own_iff_f (by omega) hq)
      case neg =>
        have hc7I : ¬ 64975 < p1.toInt := fun q => hc7 ((own_lti (by decide) rfl).mpr q)
        refine ownVia (fun _ k => XS.icmpYes X0.here hx rfl (pc0 := 170) (pc' := 197) rfl (hb hby d2_170) rfl (flt hc7).2.2.2 (by decide) (by decide) k) ?_
        show ownFin _ _ _ _ _ (T0.setTop (mkF m 197 #[.val (.int p1)] []))
        exact J197 (own_iff_t (by omega) hq)
  have J148 : ∀ (hq : own_nsP p1.toInt ↔ (12289 ≤ p1.toInt ∧ p1.toInt ≤ 55295) ∨ (63744 ≤ p1.toInt ∧ p1.toInt ≤ 64975) ∨ (65008 ≤ p1.toInt ∧ p1.toInt ≤ 65533) ∨ (65536 ≤ p1.toInt ∧ p1.toInt ≤ 983039)), ownFin p e below (ownFE s ({ frames := 0, cells := 0, slots := 0, locals := 0 } : Room).cells ({ frames := 0, cells := 0, slots := 0, locals := 0 } : Room).slots) (Q_own_nstart Z p1 h0 n0 ) (T0.setTop (mkF m 148 #[.val (.int p1)] [])) := by
    intro hq
    show ownFin _ _ _ _ _ (T0.setTop (mkF m 148 #[.val (.int p1)] []))
    refine ownVia (fun _ k => XS.iloadN X0.here hx rfl (hb hby d2_148) rfl k) ?_
    show ownFin _ _ _ _ _ (T0.setTop (mkF m 149 #[.val (.int p1)] [(.int p1)]))
    refine ownVia (fun _ k => XS.sipush X0.here hx rfl (hb hby d2_149) k) ?_
    show ownFin _ _ _ _ _ (T0.setTop (mkF m 152 #[.val (.int p1)] [(.int (12289 : Int32)), (.int p1)]))
    by_cases hc8 : p1 < (12289 : Int32)
    case pos =>
      have hc8I : p1.toInt < 12289 := (own_lti rfl (by decide)).mp hc8
      refine ownVia (fun _ k => XS.icmpYes X0.here hx rfl (pc0 := 152) (pc' := 161) rfl (hb hby d2_152) rfl (tlt hc8).1 (by decide) (by decide) k) ?_
      show ownFin _ _ _ _ _ (T0.setTop (mkF m 161 #[.val (.int p1)] []))
      exact J161 (own_iff_f (by omega) hq)
    case neg =>
      have hc8I : ¬ p1.toInt < 12289 := fun q => hc8 ((own_lti rfl (by decide)).mpr q)
      refine ownVia (fun _ k => XS.icmpNo X0.here hx rfl (hb hby d2_152) rfl (flt hc8).1 k) ?_
      show ownFin _ _ _ _ _ (T0.setTop (mkF m 155 #[.val (.int p1)] []))
      refine ownVia (fun _ k => XS.iloadN X0.here hx rfl (hb hby d2_155) rfl k) ?_
      show ownFin _ _ _ _ _ (T0.setTop (mkF m 156 #[.val (.int p1)] [(.int p1)]))
      refine ownVia (fun _ k => X0.ldcInt hx hown (mvT hZ (hw _ (List.mem_of_getElem? (i := 51) rfl))) (g := (mkF m 156 #[.val (.int p1)] [(.int p1)])) rfl (hb hby d2_156) _ k) ?_
      show ownFin _ _ _ _ _ (T0.setTop (mkF m 158 #[.val (.int p1)] [(.int (55295 : Int32)), (.int p1)]))
      by_cases hc9 : (55295 : Int32) < p1
      case pos =>
        have hc9I : 55295 < p1.toInt := (own_lti (by decide) rfl).mp hc9
        refine ownVia (fun _ k => XS.icmpNo X0.here hx rfl (hb hby d2_158) rfl (tlt hc9).2.2.2 k) ?_
        show ownFin _ _ _ _ _ (T0.setTop (mkF m 161 #[.val (.int p1)] []))
        exact J161 (own_iff_f (by omega) hq)
      case neg =>
        have hc9I : ¬ 55295 < p1.toInt := fun q => hc9 ((own_lti (by decide) rfl).mpr q)
        refine ownVia (fun _ k => XS.icmpYes X0.here hx rfl (pc0 := 158) (pc' := 197) rfl (hb hby d2_158) rfl (flt hc9).2.2.2 (by decide) (by decide) k) ?_
        show ownFin _ _ _ _ _ (T0.setTop (mkF m 197 #[.val (.int p1)] []))
        exact J197 (own_iff_t (by omega) hq)
  have J134 : ∀ (hq : own_nsP p1.toInt ↔ (11264 ≤ p1.toInt ∧ p1.toInt ≤ 12271) ∨ (12289 ≤ p1.toInt ∧ p1.toInt ≤ 55295) ∨ (63744 ≤ p1.toInt ∧ p1.toInt ≤ 64975) ∨ (65008 ≤ p1.toInt ∧ p1.toInt ≤ 65533) ∨ (65536 ≤ p1.toInt ∧ p1.toInt ≤ 983039)), ownFin p e below (ownFE s ({ frames := 0, cells := 0, slots := 0, locals := 0 } : Room).cells ({ frames := 0, cells := 0, slots := 0, locals := 0 } : Room).slots) (Q_own_nstart Z p1 h0 n0 ) (T0.setTop (mkF m 134 #[.val (.int p1)] [])) := by
    intro hq
    show ownFin _ _ _ _ _ (T0.setTop (mkF m 134 #[.val (.int p1)] []))
    refine ownVia (fun _ k => XS.iloadN X0.here hx rfl (hb hby d2_134) rfl k) ?_
    show ownFin _ _ _ _ _ (T0.setTop (mkF m 135 #[.val (.int p1)] [(.int p1)]))
    refine ownVia (fun _ k => XS.sipush X0.here hx rfl (hb hby d2_135) k) ?_
    show ownFin _ _ _ _ _ (T0.setTop (mkF m 138 #[.val (.int p1)] [(.int (11264 : Int32)), (.int p1)]))
    by_cases hc10 : p1 < (11264 : Int32)
    case pos =>
      have hc10I : p1.toInt < 11264 := (own_lti rfl (by decide)).mp hc10
      refine ownVia (fun _ k => XS.icmpYes X0.here hx rfl (pc0 := 138) (pc' := 148) rfl (hb hby d2_138) rfl (tlt hc10).1 (by decide) (by decide) k) ?_
      show ownFin _ _ _ _ _ (T0.setTop (mkF m 148 #[.val (.int p1)] []))
      exact J148 (own_iff_f (by omega) hq)
    case neg =>
      have hc10I : ¬ p1.toInt < 11264 := fun q => hc10 ((own_lti rfl (by decide)).mpr q)
      refine ownVia (fun _ k => XS.icmpNo X0.here hx rfl (hb hby d2_138) rfl (flt hc10).1 k) ?_
      show ownFin _ _ _ _ _ (T0.setTop (mkF m 141 #[.val (.int p1)] []))
      refine ownVia (fun _ k => XS.iloadN X0.here hx rfl (hb hby d2_141) rfl k) ?_
      show ownFin _ _ _ _ _ (T0.setTop (mkF m 142 #[.val (.int p1)] [(.int p1)]))
      refine ownVia (fun _ k => XS.sipush X0.here hx rfl (hb hby d2_142) k) ?_
      show ownFin _ _ _ _ _ (T0.setTop (mkF m 145 #[.val (.int p1)] [(.int (12271 : Int32)), (.int p1)]))
      by_cases hc11 : (12271 : Int32) < p1
      case pos =>
        have hc11I : 12271 < p1.toInt := (own_lti (by decide) rfl).mp hc11
        refine ownVia (fun _ k => XS.icmpNo X0.here hx rfl (hb hby d2_145) rfl (tlt hc11).2.2.2 k) ?_
        show ownFin _ _ _ _ _ (T0.setTop (mkF m 148 #[.val (.int p1)] []))
        exact J148 (own_iff_f (by omega) hq)
      case neg =>
        have hc11I : ¬ 12271 < p1.toInt := fun q => hc11 ((own_lti (by decide) rfl).mpr q)
        refine ownVia (fun _ k => XS.icmpYes X0.here hx rfl (pc0 := 145) (pc' := 197) rfl (hb hby d2_145) rfl (flt hc11).2.2.2 (by decide) (by decide) k) ?_
        show ownFin _ _ _ _ _ (T0.setTop (mkF m 197 #[.val (.int p1)] []))
        exact J197 (own_iff_t (by omega) hq)
  have J120 : ∀ (hq : own_nsP p1.toInt ↔ (8304 ≤ p1.toInt ∧ p1.toInt ≤ 8591) ∨ (11264 ≤ p1.toInt ∧ p1.toInt ≤ 12271) ∨ (12289 ≤ p1.toInt ∧ p1.toInt ≤ 55295) ∨ (63744 ≤ p1.toInt ∧ p1.toInt ≤ 64975) ∨ (65008 ≤ p1.toInt ∧ p1.toInt ≤ 65533) ∨ (65536 ≤ p1.toInt ∧ p1.toInt ≤ 983039)), ownFin p e below (ownFE s ({ frames := 0, cells := 0, slots := 0, locals := 0 } : Room).cells ({ frames := 0, cells := 0, slots := 0, locals := 0 } : Room).slots) (Q_own_nstart Z p1 h0 n0 ) (T0.setTop (mkF m 120 #[.val (.int p1)] [])) := by
    intro hq
    show ownFin _ _ _ _ _ (T0.setTop (mkF m 120 #[.val (.int p1)] []))
    refine ownVia (fun _ k => XS.iloadN X0.here hx rfl (hb hby d2_120) rfl k) ?_
    show ownFin _ _ _ _ _ (T0.setTop (mkF m 121 #[.val (.int p1)] [(.int p1)]))
    refine ownVia (fun _ k => XS.sipush X0.here hx rfl (hb hby d2_121) k) ?_
    show ownFin _ _ _ _ _ (T0.setTop (mkF m 124 #[.val (.int p1)] [(.int (8304 : Int32)), (.int p1)]))
    by_cases hc12 : p1 < (8304 : Int32)
    case pos =>
      have hc12I : p1.toInt < 8304 := (own_lti rfl (by decide)).mp hc12
      refine ownVia (fun _ k => XS.icmpYes X0.here hx rfl (pc0 := 124) (pc' := 134) rfl (hb hby d2_124) rfl (tlt hc12).1 (by decide) (by decide) k) ?_
      show ownFin _ _ _ _ _ (T0.setTop (mkF m 134 #[.val (.int p1)] []))
      exact J134 (own_iff_f (by omega) hq)
    case neg =>
      have hc12I : ¬ p1.toInt < 8304 := fun q => hc12 ((own_lti rfl (by decide)).mpr q)
      refine ownVia (fun _ k => XS.icmpNo X0.here hx rfl (hb hby d2_124) rfl (flt hc12).1 k) ?_
      show ownFin _ _ _ _ _ (T0.setTop (mkF m 127 #[.val (.int p1)] []))
      refine ownVia (fun _ k => XS.iloadN X0.here hx rfl (hb hby d2_127) rfl k) ?_
      show ownFin _ _ _ _ _ (T0.setTop (mkF m 128 #[.val (.int p1)] [(.int p1)]))
      refine ownVia (fun _ k => XS.sipush X0.here hx rfl (hb hby d2_128) k) ?_
      show ownFin _ _ _ _ _ (T0.setTop (mkF m 131 #[.val (.int p1)] [(.int (8591 : Int32)), (.int p1)]))
      by_cases hc13 : (8591 : Int32) < p1
      case pos =>
        have hc13I : 8591 < p1.toInt := (own_lti (by decide) rfl).mp hc13
        refine ownVia (fun _ k => XS.icmpNo X0.here hx rfl (hb hby d2_131) rfl (tlt hc13).2.2.2 k) ?_
        show ownFin _ _ _ _ _ (T0.setTop (mkF m 134 #[.val (.int p1)] []))
        exact J134 (own_iff_f (by omega) hq)
      case neg =>
        have hc13I : ¬ 8591 < p1.toInt := fun q => hc13 ((own_lti (by decide) rfl).mpr q)
        refine ownVia (fun _ k => XS.icmpYes X0.here hx rfl (pc0 := 131) (pc' := 197) rfl (hb hby d2_131) rfl (flt hc13).2.2.2 (by decide) (by decide) k) ?_
        show ownFin _ _ _ _ _ (T0.setTop (mkF m 197 #[.val (.int p1)] []))
        exact J197 (own_iff_t (by omega) hq)
  have J106 : ∀ (hq : own_nsP p1.toInt ↔ (8204 ≤ p1.toInt ∧ p1.toInt ≤ 8205) ∨ (8304 ≤ p1.toInt ∧ p1.toInt ≤ 8591) ∨ (11264 ≤ p1.toInt ∧ p1.toInt ≤ 12271) ∨ (12289 ≤ p1.toInt ∧ p1.toInt ≤ 55295) ∨ (63744 ≤ p1.toInt ∧ p1.toInt ≤ 64975) ∨ (65008 ≤ p1.toInt ∧ p1.toInt ≤ 65533) ∨ (65536 ≤ p1.toInt ∧ p1.toInt ≤ 983039)), ownFin p e below (ownFE s ({ frames := 0, cells := 0, slots := 0, locals := 0 } : Room).cells ({ frames := 0, cells := 0, slots := 0, locals := 0 } : Room).slots) (Q_own_nstart Z p1 h0 n0 ) (T0.setTop (mkF m 106 #[.val (.int p1)] [])) := by
    intro hq
    show ownFin _ _ _ _ _ (T0.setTop (mkF m 106 #[.val (.int p1)] []))
    refine ownVia (fun _ k => XS.iloadN X0.here hx rfl (hb hby d2_106) rfl k) ?_
    show ownFin _ _ _ _ _ (T0.setTop (mkF m 107 #[.val (.int p1)] [(.int p1)]))
    refine ownVia (fun _ k => XS.sipush X0.here hx rfl (hb hby d2_107) k) ?_
    show ownFin _ _ _ _ _ (T0.setTop (mkF m 110 #[.val (.int p1)] [(.int (8204 : Int32)), (.int p1)]))
    by_cases hc14 : p1 < (8204 : Int32)
    case pos =>
      have hc14I : p1.toInt < 8204 := (own_lti rfl (by decide)).mp hc14
      refine ownVia (fun _ k => XS.icmpYes X0.here hx rfl (pc0 := 110) (pc' := 120) rfl (hb hby d2_110) rfl (tlt hc14).1 (by decide) (by decide) k) ?_
      show ownFin _ _ _ _ _ (T0.setTop (mkF m 120 #[.val (.int p1)] []))
      exact J120 (own_iff_f (by omega) hq)
    case neg =>
      have hc14I : ¬ p1.toInt < 8204 := fun q => hc14 ((own_lti rfl (by decide)).mpr q)
      refine ownVia (fun _ k => XS.icmpNo X0.here hx rfl (hb hby d2_110) rfl (flt hc14).1 k) ?_
      show ownFin _ _ _ _ _ (T0.setTop (mkF m 113 #[.val (.int p1)] []))
      refine ownVia (fun _ k => XS.iloadN X0.here hx rfl (hb hby d2_113) rfl k) ?_
      show ownFin _ _ _ _ _ (T0.setTop (mkF m 114 #[.val (.int p1)] [(.int p1)]))
      refine ownVia (fun _ k => XS.sipush X0.here hx rfl (hb hby d2_114) k) ?_
      show ownFin _ _ _ _ _ (T0.setTop (mkF m 117 #[.val (.int p1)] [(.int (8205 : Int32)), (.int p1)]))
      by_cases hc15 : (8205 : Int32) < p1
      case pos =>
        have hc15I : 8205 < p1.toInt := (own_lti (by decide) rfl).mp hc15
        refine ownVia (fun _ k => XS.icmpNo X0.here hx rfl (hb hby d2_117) rfl (tlt hc15).2.2.2 k) ?_
        show ownFin _ _ _ _ _ (T0.setTop (mkF m 120 #[.val (.int p1)] []))
        exact J120 (own_iff_f (by omega) hq)
      case neg =>
        have hc15I : ¬ 8205 < p1.toInt := fun q => hc15 ((own_lti (by decide) rfl).mpr q)
        refine ownVia (fun _ k => XS.icmpYes X0.here hx rfl (pc0 := 117) (pc' := 197) rfl (hb hby d2_117) rfl (flt hc15).2.2.2 (by decide) (by decide) k) ?_
        show ownFin _ _ _ _ _ (T0.setTop (mkF m 197 #[.val (.int p1)] []))
        exact J197 (own_iff_t (by omega) hq)
  have J92 : ∀ (hq : own_nsP p1.toInt ↔ (895 ≤ p1.toInt ∧ p1.toInt ≤ 8191) ∨ (8204 ≤ p1.toInt ∧ p1.toInt ≤ 8205) ∨ (8304 ≤ p1.toInt ∧ p1.toInt ≤ 8591) ∨ (11264 ≤ p1.toInt ∧ p1.toInt ≤ 12271) ∨ (12289 ≤ p1.toInt ∧ p1.toInt ≤ 55295) ∨ (63744 ≤ p1.toInt ∧ p1.toInt ≤ 64975) ∨ (65008 ≤ p1.toInt ∧ p1.toInt ≤ 65533) ∨ (65536 ≤ p1.toInt ∧ p1.toInt ≤ 983039)), ownFin p e below (ownFE s ({ frames := 0, cells := 0, slots := 0, locals := 0 } : Room).cells ({ frames := 0, cells := 0, slots := 0, locals := 0 } : Room).slots) (Q_own_nstart Z p1 h0 n0 ) (T0.setTop (mkF m 92 #[.val (.int p1)] [])) := by
    intro hq
    show ownFin _ _ _ _ _ (T0.setTop (mkF m 92 #[.val (.int p1)] []))
    refine ownVia (fun _ k => XS.iloadN X0.here hx rfl (hb hby d2_92) rfl k) ?_
    show ownFin _ _ _ _ _ (T0.setTop (mkF m 93 #[.val (.int p1)] [(.int p1)]))
    refine ownVia (fun _ k => XS.sipush X0.here hx rfl (hb hby d2_93) k) ?_
    show ownFin _ _ _ _ _ (T0.setTop (mkF m 96 #[.val (.int p1)] [(.int (895 : Int32)), (.int p1)]))
    by_cases hc16 : p1 < (895 : Int32)
    case pos =>
      have hc16I : p1.toInt < 895 := (own_lti rfl (by decide)).mp hc16
      refine ownVia (fun _ k => XS.icmpYes X0.here hx rfl (pc0 := 96) (pc' := 106) rfl (hb hby d2_96) rfl (tlt hc16).1 (by decide) (by decide) k) ?_
      show ownFin _ _ _ _ _ (T0.setTop (mkF m 106 #[.val (.int p1)] []))
      exact J106 (own_iff_f (by omega) hq)
    case neg =>
      have hc16I : ¬ p1.toInt < 895 := fun q => hc16 ((own_lti rfl (by decide)).mpr q)
      refine ownVia (fun _ k => XS.icmpNo X0.here hx rfl (hb hby d2_96) rfl (flt hc16).1 k) ?_
      show ownFin _ _ _ _ _ (T0.setTop (mkF m 99 #[.val (.int p1)] []))
      refine ownVia (fun _ k => XS.iloadN X0.here hx rfl (hb hby d2_99) rfl k) ?_
      show ownFin _ _ _ _ _ (T0.setTop (mkF m 100 #[.val (.int p1)] [(.int p1)]))
      refine ownVia (fun _ k => XS.sipush X0.here hx rfl (hb hby d2_100) k) ?_
      show ownFin _ _ _ _ _ (T0.setTop (mkF m 103 #[.val (.int p1)] [(.int (8191 : Int32)), (.int p1)]))
      by_cases hc17 : (8191 : Int32) < p1
      case pos =>
        have hc17I : 8191 < p1.toInt := (own_lti (by decide) rfl).mp hc17
        refine ownVia (fun _ k => XS.icmpNo X0.here hx rfl (hb hby d2_103) rfl (tlt hc17).2.2.2 k) ?_
        show ownFin _ _ _ _ _ (T0.setTop (mkF m 106 #[.val (.int p1)] []))
        exact J106 (own_iff_f (by omega) hq)
      case neg =>
        have hc17I : ¬ 8191 < p1.toInt := fun q => hc17 ((own_lti (by decide) rfl).mpr q)
        refine ownVia (fun _ k => XS.icmpYes X0.here hx rfl (pc0 := 103) (pc' := 197) rfl (hb hby d2_103) rfl (flt hc17).2.2.2 (by decide) (by decide) k) ?_
        show ownFin _ _ _ _ _ (T0.setTop (mkF m 197 #[.val (.int p1)] []))
        exact J197 (own_iff_t (by omega) hq)
  have J78 : ∀ (hq : own_nsP p1.toInt ↔ (880 ≤ p1.toInt ∧ p1.toInt ≤ 893) ∨ (895 ≤ p1.toInt ∧ p1.toInt ≤ 8191) ∨ (8204 ≤ p1.toInt ∧ p1.toInt ≤ 8205) ∨ (8304 ≤ p1.toInt ∧ p1.toInt ≤ 8591) ∨ (11264 ≤ p1.toInt ∧ p1.toInt ≤ 12271) ∨ (12289 ≤ p1.toInt ∧ p1.toInt ≤ 55295) ∨ (63744 ≤ p1.toInt ∧ p1.toInt ≤ 64975) ∨ (65008 ≤ p1.toInt ∧ p1.toInt ≤ 65533) ∨ (65536 ≤ p1.toInt ∧ p1.toInt ≤ 983039)), ownFin p e below (ownFE s ({ frames := 0, cells := 0, slots := 0, locals := 0 } : Room).cells ({ frames := 0, cells := 0, slots := 0, locals := 0 } : Room).slots) (Q_own_nstart Z p1 h0 n0 ) (T0.setTop (mkF m 78 #[.val (.int p1)] [])) := by
    intro hq
    show ownFin _ _ _ _ _ (T0.setTop (mkF m 78 #[.val (.int p1)] []))
    refine ownVia (fun _ k => XS.iloadN X0.here hx rfl (hb hby d2_78) rfl k) ?_
    show ownFin _ _ _ _ _ (T0.setTop (mkF m 79 #[.val (.int p1)] [(.int p1)]))
    refine ownVia (fun _ k => XS.sipush X0.here hx rfl (hb hby d2_79) k) ?_
    show ownFin _ _ _ _ _ (T0.setTop (mkF m 82 #[.val (.int p1)] [(.int (880 : Int32)), (.int p1)]))
    by_cases hc18 : p1 < (880 : Int32)
    case pos =>
      have hc18I : p1.toInt < 880 := (own_lti rfl (by decide)).mp hc18
      refine ownVia (fun _ k => XS.icmpYes X0.here hx rfl (pc0 := 82) (pc' := 92) rfl (hb hby d2_82) rfl (tlt hc18).1 (by decide) (by decide) k) ?_
      show ownFin _ _ _ _ _ (T0.setTop (mkF m 92 #[.val (.int p1)] []))
      exact J92 (own_iff_f (by omega) hq)
    case neg =>
      have hc18I : ¬ p1.toInt < 880 := fun q => hc18 ((own_lti rfl (by decide)).mpr q)
      refine ownVia (fun _ k => XS.icmpNo X0.here hx rfl (hb hby d2_82) rfl (flt hc18).1 k) ?_
      show ownFin _ _ _ _ _ (T0.setTop (mkF m 85 #[.val (.int p1)] []))
      refine ownVia (fun _ k => XS.iloadN X0.here hx rfl (hb hby d2_85) rfl k) ?_
      show ownFin _ _ _ _ _ (T0.setTop (mkF m 86 #[.val (.int p1)] [(.int p1)]))
      refine ownVia (fun _ k => XS.sipush X0.here hx rfl (hb hby d2_86) k) ?_
      show ownFin _ _ _ _ _ (T0.setTop (mkF m 89 #[.val (.int p1)] [(.int (893 : Int32)), (.int p1)]))
      by_cases hc19 : (893 : Int32) < p1
      case pos =>
        have hc19I : 893 < p1.toInt := (own_lti (by decide) rfl).mp hc19
        refine ownVia (fun _ k => XS.icmpNo X0.here hx rfl (hb hby d2_89) rfl (tlt hc19).2.2.2 k) ?_
        show ownFin _ _ _ _ _ (T0.setTop (mkF m 92 #[.val (.int p1)] []))
        exact J92 (own_iff_f (by omega) hq)
      case neg =>
        have hc19I : ¬ 893 < p1.toInt := fun q => hc19 ((own_lti (by decide) rfl).mpr q)
        refine ownVia (fun _ k => XS.icmpYes X0.here hx rfl (pc0 := 89) (pc' := 197) rfl (hb hby d2_89) rfl (flt hc19).2.2.2 (by decide) (by decide) k) ?_
        show ownFin _ _ _ _ _ (T0.setTop (mkF m 197 #[.val (.int p1)] []))
        exact J197 (own_iff_t (by omega) hq)
  have J64 : ∀ (hq : own_nsP p1.toInt ↔ (248 ≤ p1.toInt ∧ p1.toInt ≤ 767) ∨ (880 ≤ p1.toInt ∧ p1.toInt ≤ 893) ∨ (895 ≤ p1.toInt ∧ p1.toInt ≤ 8191) ∨ (8204 ≤ p1.toInt ∧ p1.toInt ≤ 8205) ∨ (8304 ≤ p1.toInt ∧ p1.toInt ≤ 8591) ∨ (11264 ≤ p1.toInt ∧ p1.toInt ≤ 12271) ∨ (12289 ≤ p1.toInt ∧ p1.toInt ≤ 55295) ∨ (63744 ≤ p1.toInt ∧ p1.toInt ≤ 64975) ∨ (65008 ≤ p1.toInt ∧ p1.toInt ≤ 65533) ∨ (65536 ≤ p1.toInt ∧ p1.toInt ≤ 983039)), ownFin p e below (ownFE s ({ frames := 0, cells := 0, slots := 0, locals := 0 } : Room).cells ({ frames := 0, cells := 0, slots := 0, locals := 0 } : Room).slots) (Q_own_nstart Z p1 h0 n0 ) (T0.setTop (mkF m 64 #[.val (.int p1)] [])) := by
    intro hq
    show ownFin _ _ _ _ _ (T0.setTop (mkF m 64 #[.val (.int p1)] []))
    refine ownVia (fun _ k => XS.iloadN X0.here hx rfl (hb hby d2_64) rfl k) ?_
    show ownFin _ _ _ _ _ (T0.setTop (mkF m 65 #[.val (.int p1)] [(.int p1)]))
    refine ownVia (fun _ k => XS.sipush X0.here hx rfl (hb hby d2_65) k) ?_
    show ownFin _ _ _ _ _ (T0.setTop (mkF m 68 #[.val (.int p1)] [(.int (248 : Int32)), (.int p1)]))
    by_cases hc20 : p1 < (248 : Int32)
    case pos =>
      have hc20I : p1.toInt < 248 := (own_lti rfl (by decide)).mp hc20
      refine ownVia (fun _ k => XS.icmpYes X0.here hx rfl (pc0 := 68) (pc' := 78) rfl (hb hby d2_68) rfl (tlt hc20).1 (by decide) (by decide) k) ?_
      show ownFin _ _ _ _ _ (T0.setTop (mkF m 78 #[.val (.int p1)] []))
      exact J78 (own_iff_f (by omega) hq)
    case neg =>
      have hc20I : ¬ p1.toInt < 248 := fun q => hc20 ((own_lti rfl (by decide)).mpr q)
      refine ownVia (fun _ k => XS.icmpNo X0.here hx rfl (hb hby d2_68) rfl (flt hc20).1 k) ?_
      show ownFin _ _ _ _ _ (T0.setTop (mkF m 71 #[.val (.int p1)] []))
      refine ownVia (fun _ k => XS.iloadN X0.here hx rfl (hb hby d2_71) rfl k) ?_
      show ownFin _ _ _ _ _ (T0.setTop (mkF m 72 #[.val (.int p1)] [(.int p1)]))
      refine ownVia (fun _ k => XS.sipush X0.here hx rfl (hb hby d2_72) k) ?_
      show ownFin _ _ _ _ _ (T0.setTop (mkF m 75 #[.val (.int p1)] [(.int (767 : Int32)), (.int p1)]))
      by_cases hc21 : (767 : Int32) < p1
      case pos =>
        have hc21I : 767 < p1.toInt := (own_lti (by decide) rfl).mp hc21
        refine ownVia (fun _ k => XS.icmpNo X0.here hx rfl (hb hby d2_75) rfl (tlt hc21).2.2.2 k) ?_
        show ownFin _ _ _ _ _ (T0.setTop (mkF m 78 #[.val (.int p1)] []))
        exact J78 (own_iff_f (by omega) hq)
      case neg =>
        have hc21I : ¬ 767 < p1.toInt := fun q => hc21 ((own_lti (by decide) rfl).mpr q)
        refine ownVia (fun _ k => XS.icmpYes X0.here hx rfl (pc0 := 75) (pc' := 197) rfl (hb hby d2_75) rfl (flt hc21).2.2.2 (by decide) (by decide) k) ?_
        show ownFin _ _ _ _ _ (T0.setTop (mkF m 197 #[.val (.int p1)] []))
        exact J197 (own_iff_t (by omega) hq)
  have J50 : ∀ (hq : own_nsP p1.toInt ↔ (216 ≤ p1.toInt ∧ p1.toInt ≤ 246) ∨ (248 ≤ p1.toInt ∧ p1.toInt ≤ 767) ∨ (880 ≤ p1.toInt ∧ p1.toInt ≤ 893) ∨ (895 ≤ p1.toInt ∧ p1.toInt ≤ 8191) ∨ (8204 ≤ p1.toInt ∧ p1.toInt ≤ 8205) ∨ (8304 ≤ p1.toInt ∧ p1.toInt ≤ 8591) ∨ (11264 ≤ p1.toInt ∧ p1.toInt ≤ 12271) ∨ (12289 ≤ p1.toInt ∧ p1.toInt ≤ 55295) ∨ (63744 ≤ p1.toInt ∧ p1.toInt ≤ 64975) ∨ (65008 ≤ p1.toInt ∧ p1.toInt ≤ 65533) ∨ (65536 ≤ p1.toInt ∧ p1.toInt ≤ 983039)), ownFin p e below (ownFE s ({ frames := 0, cells := 0, slots := 0, locals := 0 } : Room).cells ({ frames := 0, cells := 0, slots := 0, locals := 0 } : Room).slots) (Q_own_nstart Z p1 h0 n0 ) (T0.setTop (mkF m 50 #[.val (.int p1)] [])) := by
    intro hq
    show ownFin _ _ _ _ _ (T0.setTop (mkF m 50 #[.val (.int p1)] []))
    refine ownVia (fun _ k => XS.iloadN X0.here hx rfl (hb hby d2_50) rfl k) ?_
    show ownFin _ _ _ _ _ (T0.setTop (mkF m 51 #[.val (.int p1)] [(.int p1)]))
    refine ownVia (fun _ k => XS.sipush X0.here hx rfl (hb hby d2_51) k) ?_
    show ownFin _ _ _ _ _ (T0.setTop (mkF m 54 #[.val (.int p1)] [(.int (216 : Int32)), (.int p1)]))
    by_cases hc22 : p1 < (216 : Int32)
    case pos =>
      have hc22I : p1.toInt < 216 := (own_lti rfl (by decide)).mp hc22
      refine ownVia (fun _ k => XS.icmpYes X0.here hx rfl (pc0 := 54) (pc' := 64) rfl (hb hby d2_54) rfl (tlt hc22).1 (by decide) (by decide) k) ?_
      show ownFin _ _ _ _ _ (T0.setTop (mkF m 64 #[.val (.int p1)] []))
      exact J64 (own_iff_f (by omega) hq)
    case neg =>
      have hc22I : ¬ p1.toInt < 216 := fun q => hc22 ((own_lti rfl (by decide)).mpr q)
      refine ownVia (fun _ k => XS.icmpNo X0.here hx rfl (hb hby d2_54) rfl (flt hc22).1 k) ?_
      show ownFin _ _ _ _ _ (T0.setTop (mkF m 57 #[.val (.int p1)] []))
      refine ownVia (fun _ k => XS.iloadN X0.here hx rfl (hb hby d2_57) rfl k) ?_
      show ownFin _ _ _ _ _ (T0.setTop (mkF m 58 #[.val (.int p1)] [(.int p1)]))
      refine ownVia (fun _ k => XS.sipush X0.here hx rfl (hb hby d2_58) k) ?_
      show ownFin _ _ _ _ _ (T0.setTop (mkF m 61 #[.val (.int p1)] [(.int (246 : Int32)), (.int p1)]))
      by_cases hc23 : (246 : Int32) < p1
      case pos =>
        have hc23I : 246 < p1.toInt := (own_lti (by decide) rfl).mp hc23
        refine ownVia (fun _ k => XS.icmpNo X0.here hx rfl (hb hby d2_61) rfl (tlt hc23).2.2.2 k) ?_
        show ownFin _ _ _ _ _ (T0.setTop (mkF m 64 #[.val (.int p1)] []))
        exact J64 (own_iff_f (by omega) hq)
      case neg =>
        have hc23I : ¬ 246 < p1.toInt := fun q => hc23 ((own_lti (by decide) rfl).mpr q)
        refine ownVia (fun _ k => XS.icmpYes X0.here hx rfl (pc0 := 61) (pc' := 197) rfl (hb hby d2_61) rfl (flt hc23).2.2.2 (by decide) (by decide) k) ?_
        show ownFin _ _ _ _ _ (T0.setTop (mkF m 197 #[.val (.int p1)] []))
        exact J197 (own_iff_t (by omega) hq)
  have J36 : ∀ (hq : own_nsP p1.toInt ↔ (192 ≤ p1.toInt ∧ p1.toInt ≤ 214) ∨ (216 ≤ p1.toInt ∧ p1.toInt ≤ 246) ∨ (248 ≤ p1.toInt ∧ p1.toInt ≤ 767) ∨ (880 ≤ p1.toInt ∧ p1.toInt ≤ 893) ∨ (895 ≤ p1.toInt ∧ p1.toInt ≤ 8191) ∨ (8204 ≤ p1.toInt ∧ p1.toInt ≤ 8205) ∨ (8304 ≤ p1.toInt ∧ p1.toInt ≤ 8591) ∨ (11264 ≤ p1.toInt ∧ p1.toInt ≤ 12271) ∨ (12289 ≤ p1.toInt ∧ p1.toInt ≤ 55295) ∨ (63744 ≤ p1.toInt ∧ p1.toInt ≤ 64975) ∨ (65008 ≤ p1.toInt ∧ p1.toInt ≤ 65533) ∨ (65536 ≤ p1.toInt ∧ p1.toInt ≤ 983039)), ownFin p e below (ownFE s ({ frames := 0, cells := 0, slots := 0, locals := 0 } : Room).cells ({ frames := 0, cells := 0, slots := 0, locals := 0 } : Room).slots) (Q_own_nstart Z p1 h0 n0 ) (T0.setTop (mkF m 36 #[.val (.int p1)] [])) := by
    intro hq
    show ownFin _ _ _ _ _ (T0.setTop (mkF m 36 #[.val (.int p1)] []))
    refine ownVia (fun _ k => XS.iloadN X0.here hx rfl (hb hby d2_36) rfl k) ?_
    show ownFin _ _ _ _ _ (T0.setTop (mkF m 37 #[.val (.int p1)] [(.int p1)]))
    refine ownVia (fun _ k => XS.sipush X0.here hx rfl (hb hby d2_37) k) ?_
    show ownFin _ _ _ _ _ (T0.setTop (mkF m 40 #[.val (.int p1)] [(.int (192 : Int32)), (.int p1)]))
    by_cases hc24 : p1 < (192 : Int32)
    case pos =>
      have hc24I : p1.toInt < 192 := (own_lti rfl (by decide)).mp hc24
      refine ownVia (fun _ k => XS.icmpYes X0.here hx rfl (pc0 := 40) (pc' := 50) rfl (hb hby d2_40) rfl (tlt hc24).1 (by decide) (by decide) k) ?_
      show ownFin _ _ _ _ _ (T0.setTop (mkF m 50 #[.val (.int p1)] []))
      exact J50 (own_iff_f (by omega) hq)
    case neg =>
      have hc24I : ¬ p1.toInt < 192 := fun q => hc24 ((own_lti rfl (by decide)).mpr q)
      refine ownVia (fun _ k => XS.icmpNo X0.here hx rfl (hb hby d2_40) rfl (flt hc24).1 k) ?_
      show ownFin _ _ _ _ _ (T0.setTop (mkF m 43 #[.val (.int p1)] []))
      refine ownVia (fun _ k => XS.iloadN X0.here hx rfl (hb hby d2_43) rfl k) ?_
      show ownFin _ _ _ _ _ (T0.setTop (mkF m 44 #[.val (.int p1)] [(.int p1)]))
      refine ownVia (fun _ k => XS.sipush X0.here hx rfl (hb hby d2_44) k) ?_
      show ownFin _ _ _ _ _ (T0.setTop (mkF m 47 #[.val (.int p1)] [(.int (214 : Int32)), (.int p1)]))
      by_cases hc25 : (214 : Int32) < p1
      case pos =>
        have hc25I : 214 < p1.toInt := (own_lti (by decide) rfl).mp hc25
        refine ownVia (fun _ k => XS.icmpNo X0.here hx rfl (hb hby d2_47) rfl (tlt hc25).2.2.2 k) ?_
        show ownFin _ _ _ _ _ (T0.setTop (mkF m 50 #[.val (.int p1)] []))
        exact J50 (own_iff_f (by omega) hq)
      case neg =>
        have hc25I : ¬ 214 < p1.toInt := fun q => hc25 ((own_lti (by decide) rfl).mpr q)
        refine ownVia (fun _ k => XS.icmpYes X0.here hx rfl (pc0 := 47) (pc' := 197) rfl (hb hby d2_47) rfl (flt hc25).2.2.2 (by decide) (by decide) k) ?_
        show ownFin _ _ _ _ _ (T0.setTop (mkF m 197 #[.val (.int p1)] []))
        exact J197 (own_iff_t (by omega) hq)
  have J30 : ∀ (hq : own_nsP p1.toInt ↔ p1.toInt = 58 ∨ (192 ≤ p1.toInt ∧ p1.toInt ≤ 214) ∨ (216 ≤ p1.toInt ∧ p1.toInt ≤ 246) ∨ (248 ≤ p1.toInt ∧ p1.toInt ≤ 767) ∨ (880 ≤ p1.toInt ∧ p1.toInt ≤ 893) ∨ (895 ≤ p1.toInt ∧ p1.toInt ≤ 8191) ∨ (8204 ≤ p1.toInt ∧ p1.toInt ≤ 8205) ∨ (8304 ≤ p1.toInt ∧ p1.toInt ≤ 8591) ∨ (11264 ≤ p1.toInt ∧ p1.toInt ≤ 12271) ∨ (12289 ≤ p1.toInt ∧ p1.toInt ≤ 55295) ∨ (63744 ≤ p1.toInt ∧ p1.toInt ≤ 64975) ∨ (65008 ≤ p1.toInt ∧ p1.toInt ≤ 65533) ∨ (65536 ≤ p1.toInt ∧ p1.toInt ≤ 983039)), ownFin p e below (ownFE s ({ frames := 0, cells := 0, slots := 0, locals := 0 } : Room).cells ({ frames := 0, cells := 0, slots := 0, locals := 0 } : Room).slots) (Q_own_nstart Z p1 h0 n0 ) (T0.setTop (mkF m 30 #[.val (.int p1)] [])) := by
    intro hq
    show ownFin _ _ _ _ _ (T0.setTop (mkF m 30 #[.val (.int p1)] []))
    refine ownVia (fun _ k => XS.iloadN X0.here hx rfl (hb hby d2_30) rfl k) ?_
    show ownFin _ _ _ _ _ (T0.setTop (mkF m 31 #[.val (.int p1)] [(.int p1)]))
    refine ownVia (fun _ k => XS.bipush X0.here hx rfl (hb hby d2_31) k) ?_
    show ownFin _ _ _ _ _ (T0.setTop (mkF m 33 #[.val (.int p1)] [(.int (58 : Int32)), (.int p1)]))
    by_cases hc26 : p1 = (58 : Int32)
    case pos =>
      have hc26I : p1.toInt = 58 := (own_eqi rfl (by decide)).mp hc26
      refine ownVia (fun _ k => XS.icmpYes X0.here hx rfl (pc0 := 33) (pc' := 197) rfl (hb hby d2_33) rfl (teq hc26).1 (by decide) (by decide) k) ?_
      show ownFin _ _ _ _ _ (T0.setTop (mkF m 197 #[.val (.int p1)] []))
      exact J197 (own_iff_t (by omega) hq)
    case neg =>
      have hc26I : ¬ p1.toInt = 58 := fun q => hc26 ((own_eqi rfl (by decide)).mpr q)
      refine ownVia (fun _ k => XS.icmpNo X0.here hx rfl (hb hby d2_33) rfl (feq hc26).1 k) ?_
      show ownFin _ _ _ _ _ (T0.setTop (mkF m 36 #[.val (.int p1)] []))
      exact J36 (own_iff_f (by omega) hq)
  have J24 : ∀ (hq : own_nsP p1.toInt ↔ p1.toInt = 95 ∨ p1.toInt = 58 ∨ (192 ≤ p1.toInt ∧ p1.toInt ≤ 214) ∨ (216 ≤ p1.toInt ∧ p1.toInt ≤ 246) ∨ (248 ≤ p1.toInt ∧ p1.toInt ≤ 767) ∨ (880 ≤ p1.toInt ∧ p1.toInt ≤ 893) ∨ (895 ≤ p1.toInt ∧ p1.toInt ≤ 8191) ∨ (8204 ≤ p1.toInt ∧ p1.toInt ≤ 8205) ∨ (8304 ≤ p1.toInt ∧ p1.toInt ≤ 8591) ∨ (11264 ≤ p1.toInt ∧ p1.toInt ≤ 12271) ∨ (12289 ≤ p1.toInt ∧ p1.toInt ≤ 55295) ∨ (63744 ≤ p1.toInt ∧ p1.toInt ≤ 64975) ∨ (65008 ≤ p1.toInt ∧ p1.toInt ≤ 65533) ∨ (65536 ≤ p1.toInt ∧ p1.toInt ≤ 983039)), ownFin p e below (ownFE s ({ frames := 0, cells := 0, slots := 0, locals := 0 } : Room).cells ({ frames := 0, cells := 0, slots := 0, locals := 0 } : Room).slots) (Q_own_nstart Z p1 h0 n0 ) (T0.setTop (mkF m 24 #[.val (.int p1)] [])) := by
    intro hq
    show ownFin _ _ _ _ _ (T0.setTop (mkF m 24 #[.val (.int p1)] []))
    refine ownVia (fun _ k => XS.iloadN X0.here hx rfl (hb hby d2_24) rfl k) ?_
    show ownFin _ _ _ _ _ (T0.setTop (mkF m 25 #[.val (.int p1)] [(.int p1)]))
    refine ownVia (fun _ k => XS.bipush X0.here hx rfl (hb hby d2_25) k) ?_
    show ownFin _ _ _ _ _ (T0.setTop (mkF m 27 #[.val (.int p1)] [(.int (95 : Int32)), (.int p1)]))
    by_cases hc27 : p1 = (95 : Int32)
    case pos =>
      have hc27I : p1.toInt = 95 := (own_eqi rfl (by decide)).mp hc27
      refine ownVia (fun _ k => XS.icmpYes X0.here hx rfl (pc0 := 27) (pc' := 197) rfl (hb hby d2_27) rfl (teq hc27).1 (by decide) (by decide) k) ?_
      show ownFin _ _ _ _ _ (T0.setTop (mkF m 197 #[.val (.int p1)] []))
      exact J197 (own_iff_t (by omega) hq)
    case neg =>
      have hc27I : ¬ p1.toInt = 95 := fun q => hc27 ((own_eqi rfl (by decide)).mpr q)
      refine ownVia (fun _ k => XS.icmpNo X0.here hx rfl (hb hby d2_27) rfl (feq hc27).1 k) ?_
      show ownFin _ _ _ _ _ (T0.setTop (mkF m 30 #[.val (.int p1)] []))
      exact J30 (own_iff_f (by omega) hq)
  have J12 : ∀ (hq : own_nsP p1.toInt ↔ (97 ≤ p1.toInt ∧ p1.toInt ≤ 122) ∨ p1.toInt = 95 ∨ p1.toInt = 58 ∨ (192 ≤ p1.toInt ∧ p1.toInt ≤ 214) ∨ (216 ≤ p1.toInt ∧ p1.toInt ≤ 246) ∨ (248 ≤ p1.toInt ∧ p1.toInt ≤ 767) ∨ (880 ≤ p1.toInt ∧ p1.toInt ≤ 893) ∨ (895 ≤ p1.toInt ∧ p1.toInt ≤ 8191) ∨ (8204 ≤ p1.toInt ∧ p1.toInt ≤ 8205) ∨ (8304 ≤ p1.toInt ∧ p1.toInt ≤ 8591) ∨ (11264 ≤ p1.toInt ∧ p1.toInt ≤ 12271) ∨ (12289 ≤ p1.toInt ∧ p1.toInt ≤ 55295) ∨ (63744 ≤ p1.toInt ∧ p1.toInt ≤ 64975) ∨ (65008 ≤ p1.toInt ∧ p1.toInt ≤ 65533) ∨ (65536 ≤ p1.toInt ∧ p1.toInt ≤ 983039)), ownFin p e below (ownFE s ({ frames := 0, cells := 0, slots := 0, locals := 0 } : Room).cells ({ frames := 0, cells := 0, slots := 0, locals := 0 } : Room).slots) (Q_own_nstart Z p1 h0 n0 ) (T0.setTop (mkF m 12 #[.val (.int p1)] [])) := by
    intro hq
    show ownFin _ _ _ _ _ (T0.setTop (mkF m 12 #[.val (.int p1)] []))
    refine ownVia (fun _ k => XS.iloadN X0.here hx rfl (hb hby d2_12) rfl k) ?_
    show ownFin _ _ _ _ _ (T0.setTop (mkF m 13 #[.val (.int p1)] [(.int p1)]))
    refine ownVia (fun _ k => XS.bipush X0.here hx rfl (hb hby d2_13) k) ?_
    show ownFin _ _ _ _ _ (T0.setTop (mkF m 15 #[.val (.int p1)] [(.int (97 : Int32)), (.int p1)]))
    by_cases hc28 : p1 < (97 : Int32)
    case pos =>
      have hc28I : p1.toInt < 97 := (own_lti rfl (by decide)).mp hc28
      refine ownVia (fun _ k => XS.icmpYes X0.here hx rfl (pc0 := 15) (pc' := 24) rfl (hb hby d2_15) rfl (tlt hc28).1 (by decide) (by decide) k) ?_
      show ownFin _ _ _ _ _ (T0.setTop (mkF m 24 #[.val (.int p1)] []))
      exact J24 (own_iff_f (by omega) hq)
    case neg =>
      have hc28I : ¬ p1.toInt < 97 := fun q => hc28 ((own_lti rfl (by decide)).mpr q)
      refine ownVia (fun _ k => XS.icmpNo X0.here hx rfl (hb hby d2_15) rfl (flt hc28).1 k) ?_
      show ownFin _ _ _ _ _ (T0.setTop (mkF m 18 #[.val (.int p1)] []))
      refine ownVia (fun _ k => XS.iloadN X0.here hx rfl (hb hby d2_18) rfl k) ?_
      show ownFin _ _ _ _ _ (T0.setTop (mkF m 19 #[.val (.int p1)] [(.int p1)]))
      refine ownVia (fun _ k => XS.bipush X0.here hx rfl (hb hby d2_19) k) ?_
      show ownFin _ _ _ _ _ (T0.setTop (mkF m 21 #[.val (.int p1)] [(.int (122 : Int32)), (.int p1)]))
      by_cases hc29 : (122 : Int32) < p1
      case pos =>
        have hc29I : 122 < p1.toInt := (own_lti (by decide) rfl).mp hc29
        refine ownVia (fun _ k => XS.icmpNo X0.here hx rfl (hb hby d2_21) rfl (tlt hc29).2.2.2 k) ?_
        show ownFin _ _ _ _ _ (T0.setTop (mkF m 24 #[.val (.int p1)] []))
        exact J24 (own_iff_f (by omega) hq)
      case neg =>
        have hc29I : ¬ 122 < p1.toInt := fun q => hc29 ((own_lti (by decide) rfl).mpr q)
        refine ownVia (fun _ k => XS.icmpYes X0.here hx rfl (pc0 := 21) (pc' := 197) rfl (hb hby d2_21) rfl (flt hc29).2.2.2 (by decide) (by decide) k) ?_
        show ownFin _ _ _ _ _ (T0.setTop (mkF m 197 #[.val (.int p1)] []))
        exact J197 (own_iff_t (by omega) hq)
  have hq : own_nsP p1.toInt ↔ (65 ≤ p1.toInt ∧ p1.toInt ≤ 90) ∨ (97 ≤ p1.toInt ∧ p1.toInt ≤ 122) ∨ p1.toInt = 95 ∨ p1.toInt = 58 ∨ (192 ≤ p1.toInt ∧ p1.toInt ≤ 214) ∨ (216 ≤ p1.toInt ∧ p1.toInt ≤ 246) ∨ (248 ≤ p1.toInt ∧ p1.toInt ≤ 767) ∨ (880 ≤ p1.toInt ∧ p1.toInt ≤ 893) ∨ (895 ≤ p1.toInt ∧ p1.toInt ≤ 8191) ∨ (8204 ≤ p1.toInt ∧ p1.toInt ≤ 8205) ∨ (8304 ≤ p1.toInt ∧ p1.toInt ≤ 8591) ∨ (11264 ≤ p1.toInt ∧ p1.toInt ≤ 12271) ∨ (12289 ≤ p1.toInt ∧ p1.toInt ≤ 55295) ∨ (63744 ≤ p1.toInt ∧ p1.toInt ≤ 64975) ∨ (65008 ≤ p1.toInt ∧ p1.toInt ≤ 65533) ∨ (65536 ≤ p1.toInt ∧ p1.toInt ≤ 983039) := Iff.rfl
  refine ownVia (fun _ k => XS.iloadN X0.here hx rfl (hb hby d2_0) rfl k) ?_
  show ownFin _ _ _ _ _ (T0.setTop (mkF m 1 #[.val (.int p1)] [(.int p1)]))
  refine ownVia (fun _ k => XS.bipush X0.here hx rfl (hb hby d2_1) k) ?_
  show ownFin _ _ _ _ _ (T0.setTop (mkF m 3 #[.val (.int p1)] [(.int (65 : Int32)), (.int p1)]))
  by_cases hc30 : p1 < (65 : Int32)
  case pos =>
    have hc30I : p1.toInt < 65 := (own_lti rfl (by decide)).mp hc30
    refine ownVia (fun _ k => XS.icmpYes X0.here hx rfl (pc0 := 3) (pc' := 12) rfl (hb hby d2_3) rfl (tlt hc30).1 (by decide) (by decide) k) ?_
    show ownFin _ _ _ _ _ (T0.setTop (mkF m 12 #[.val (.int p1)] []))
    exact J12 (own_iff_f (by omega) hq)
  case neg =>
    have hc30I : ¬ p1.toInt < 65 := fun q => hc30 ((own_lti rfl (by decide)).mpr q)
    refine ownVia (fun _ k => XS.icmpNo X0.here hx rfl (hb hby d2_3) rfl (flt hc30).1 k) ?_
    show ownFin _ _ _ _ _ (T0.setTop (mkF m 6 #[.val (.int p1)] []))
    refine ownVia (fun _ k => XS.iloadN X0.here hx rfl (hb hby d2_6) rfl k) ?_
    show ownFin _ _ _ _ _ (T0.setTop (mkF m 7 #[.val (.int p1)] [(.int p1)]))
    refine ownVia (fun _ k => XS.bipush X0.here hx rfl (hb hby d2_7) k) ?_
    show ownFin _ _ _ _ _ (T0.setTop (mkF m 9 #[.val (.int p1)] [(.int (90 : Int32)), (.int p1)]))
    by_cases hc31 : (90 : Int32) < p1
    case pos =>
      have hc31I : 90 < p1.toInt := (own_lti (by decide) rfl).mp hc31
      refine ownVia (fun _ k => XS.icmpNo X0.here hx rfl (hb hby d2_9) rfl (tlt hc31).2.2.2 k) ?_
      show ownFin _ _ _ _ _ (T0.setTop (mkF m 12 #[.val (.int p1)] []))
      exact J12 (own_iff_f (by omega) hq)
    case neg =>
      have hc31I : ¬ 90 < p1.toInt := fun q => hc31 ((own_lti (by decide) rfl).mpr q)
      refine ownVia (fun _ k => XS.icmpYes X0.here hx rfl (pc0 := 9) (pc' := 197) rfl (hb hby d2_9) rfl (flt hc31).2.2.2 (by decide) (by decide) k) ?_
      show ownFin _ _ _ _ _ (T0.setTop (mkF m 197 #[.val (.int p1)] []))
      exact J197 (own_iff_t (by omega) hq)
theorem d1_0 : decode prog_31_method_3_code 0 = .ok (.iload_n 0, 1) := by decide +kernel
theorem d1_1 : decode prog_31_method_3_code 1 = .ok (.invokestatic 32, 3) := by decide +kernel
theorem d1_4 : decode prog_31_method_3_code 4 = .ok (.ifCond .ne 56, 3) := by decide +kernel
theorem d1_7 : decode prog_31_method_3_code 7 = .ok (.iload_n 0, 1) := by decide +kernel
theorem d1_8 : decode prog_31_method_3_code 8 = .ok (.bipush 45, 2) := by decide +kernel
theorem d1_10 : decode prog_31_method_3_code 10 = .ok (.if_icmp .eq 50, 3) := by decide +kernel
theorem d1_13 : decode prog_31_method_3_code 13 = .ok (.iload_n 0, 1) := by decide +kernel
theorem d1_14 : decode prog_31_method_3_code 14 = .ok (.bipush 48, 2) := by decide +kernel
theorem d1_16 : decode prog_31_method_3_code 16 = .ok (.if_icmp .lt 9, 3) := by decide +kernel
theorem d1_19 : decode prog_31_method_3_code 19 = .ok (.iload_n 0, 1) := by decide +kernel
theorem d1_20 : decode prog_31_method_3_code 20 = .ok (.bipush 57, 2) := by decide +kernel
theorem d1_22 : decode prog_31_method_3_code 22 = .ok (.if_icmp .le 38, 3) := by decide +kernel
theorem d1_25 : decode prog_31_method_3_code 25 = .ok (.iload_n 0, 1) := by decide +kernel
theorem d1_26 : decode prog_31_method_3_code 26 = .ok (.sipush 183, 3) := by decide +kernel
theorem d1_29 : decode prog_31_method_3_code 29 = .ok (.if_icmp .eq 31, 3) := by decide +kernel
theorem d1_32 : decode prog_31_method_3_code 32 = .ok (.iload_n 0, 1) := by decide +kernel
theorem d1_33 : decode prog_31_method_3_code 33 = .ok (.sipush 768, 3) := by decide +kernel
theorem d1_36 : decode prog_31_method_3_code 36 = .ok (.if_icmp .lt 10, 3) := by decide +kernel
theorem d1_39 : decode prog_31_method_3_code 39 = .ok (.iload_n 0, 1) := by decide +kernel
theorem d1_40 : decode prog_31_method_3_code 40 = .ok (.sipush 879, 3) := by decide +kernel
theorem d1_43 : decode prog_31_method_3_code 43 = .ok (.if_icmp .le 17, 3) := by decide +kernel
theorem d1_46 : decode prog_31_method_3_code 46 = .ok (.iload_n 0, 1) := by decide +kernel
theorem d1_47 : decode prog_31_method_3_code 47 = .ok (.sipush 8255, 3) := by decide +kernel
theorem d1_50 : decode prog_31_method_3_code 50 = .ok (.if_icmp .lt 14, 3) := by decide +kernel
theorem d1_53 : decode prog_31_method_3_code 53 = .ok (.iload_n 0, 1) := by decide +kernel
theorem d1_54 : decode prog_31_method_3_code 54 = .ok (.sipush 8256, 3) := by decide +kernel
theorem d1_57 : decode prog_31_method_3_code 57 = .ok (.if_icmp .gt 7, 3) := by decide +kernel
theorem d1_60 : decode prog_31_method_3_code 60 = .ok (.iconst 1, 1) := by decide +kernel
theorem d1_61 : decode prog_31_method_3_code 61 = .ok (.goto 4, 3) := by decide +kernel
theorem d1_64 : decode prog_31_method_3_code 64 = .ok (.iconst 0, 1) := by decide +kernel
theorem d1_65 : decode prog_31_method_3_code 65 = .ok (.ireturn, 1) := by decide +kernel
theorem own_ef32 (m : MethodId) (p1 : Int32) : entryFrame m #[(.int p1)] 1 = mkF m 0 #[.val (.int p1)] [] := by first | (simp [entryFrame, mkF, argsToLocals, Value.category]; done) | rfl
def Q_own_nchar (Z : State) (p1 : Int32) (h0 : Heap) (n0 : Nat)  : Option Value → Heap → List Loc → Prop := fun v h L => Fr n0 L ∧ h = h0 ∧ ∃ r : Int32, v = some (.int r) ∧ own_nc p1 r
theorem own_pd0 : parseMethodDescriptor "(I)Z" = some ⟨[.int], some .boolean⟩ := by decide +kernel
set_option maxRecDepth 65536 in
set_option maxHeartbeats 40000000 in
theorem own_nchar (l : Launch) (Z : State) (a0 : Array Value) (hw : ∀ d ∈ tables_1, d.before a0 Z = true)  (p1 : Int32) (h0 : Heap) (n0 : Nat)  (Z0 : n0 ≤ h0.size)  :
    ownMet l Z (⟨"com/example/lacuna/lacuna/rdf/BlankNode", "isNameChar", "(I)Z"⟩ : MethodName) prog_31_method_3_code 1 (some .boolean) [] ({ frames := 1, cells := 0, slots := 0, locals := 16 } : Room) #[(.int p1)] h0 (Q_own_nchar Z p1 h0 n0 ) := by
  refine ownBody (plainFor_of_name own_pn0) ?_
  intro p e s m below meth c T0 hx hby hml hret hlk hZ hown hnm X0 e0
  have N0 : Fr n0 [] := Fr.nil n0
  refine ownVia (fun _ k => castTop (own_ef32 m p1) k) ?_
  show ownFin _ _ _ _ _ (T0.setTop (mkF m 0 #[.val (.int p1)] []))
  refine ownVia (fun _ k => XS.iloadN X0.here hx rfl (hb hby d1_0) rfl k) ?_
  show ownFin _ _ _ _ _ (T0.setTop (mkF m 1 #[.val (.int p1)] [(.int p1)]))
  refine ownCallS X0 hx hZ hown (hw _ (List.mem_of_getElem? (i := 45) rfl)) (hw _ (List.mem_of_getElem? (i := 46) rfl)) (hw _ (List.mem_of_getElem? (i := 43) rfl)) (hw _ (List.mem_of_getElem? (i := 47) rfl)) (by decide) e0 (own_nstart l Z a0 hw p1 h0 n0 Z0) (by rw [hml]; rfl) [(.int p1)] [] (lenOf own_pd0 rfl) rfl rfl 0 rfl (hb hby d1_1) (by decide) (by decide) (by decide) (by decide) ?_
  intro v33 T33 L33 X33 hq33
  obtain ⟨N33q, eq33, r, rfl, hr⟩ := hq33
  have N33 := Fr.app N0 N33q
  have e33 : T33.heap = h0 := eq33
  show ownFin _ _ _ _ _ (T33.setTop (mkF m 4 #[.val (.int p1)] [(.int r)]))
  have J60 : ∀ (hp : own_nameP p1.toInt), ownFin p e below (ownFE s ({ frames := 1, cells := 0, slots := 0, locals := 16 } : Room).cells ({ frames := 1, cells := 0, slots := 0, locals := 16 } : Room).slots) (Q_own_nchar Z p1 h0 n0 ) (T33.setTop (mkF m 60 #[.val (.int p1)] [])) := by
    intro hp
    show ownFin _ _ _ _ _ (T33.setTop (mkF m 60 #[.val (.int p1)] []))
    refine ownVia (fun _ k => XS.iconst X33.here hx rfl (hb hby d1_60) k) ?_
    show ownFin _ _ _ _ _ (T33.setTop (mkF m 61 #[.val (.int p1)] [(.int (1 : Int32))]))
    refine ownVia (fun _ k => XS.goto X33.here hx rfl (pc0 := 61) (pc' := 65) rfl (hb hby d1_61) (by decide) (by decide) k) ?_
    show ownFin _ _ _ _ _ (T33.setTop (mkF m 65 #[.val (.int p1)] [(.int (1 : Int32))]))
    refine ownRetZ X33 hx hlk hret (hb hby d1_65) (by decide) (by decide) (Or.inr rfl) ?_
    show (Q_own_nchar Z p1 h0 n0 ) (some (.int (1 : Int32))) T33.heap _
    rw [e33]
    exact ⟨N33, rfl, _, rfl, Or.inl ⟨rfl, hp⟩⟩
  have J64 : ∀ (hp : ¬ own_nameP p1.toInt), ownFin p e below (ownFE s ({ frames := 1, cells := 0, slots := 0, locals := 16 } : Room).cells ({ frames := 1, cells := 0, slots := 0, locals := 16 } : Room).slots) (Q_own_nchar Z p1 h0 n0 ) (T33.setTop (mkF m 64 #[.val (.int p1)] [])) := by
    intro hp
    show ownFin _ _ _ _ _ (T33.setTop (mkF m 64 #[.val (.int p1)] []))
    refine ownVia (fun _ k => XS.iconst X33.here hx rfl (hb hby d1_64) k) ?_
    show ownFin _ _ _ _ _ (T33.setTop (mkF m 65 #[.val (.int p1)] [(.int (0 : Int32))]))
    refine ownRetZ X33 hx hlk hret (hb hby d1_65) (by decide) (by decide) (Or.inl rfl) ?_
    show (Q_own_nchar Z p1 h0 n0 ) (some (.int (0 : Int32))) T33.heap _
    rw [e33]
    exact ⟨N33, rfl, _, rfl, Or.inr ⟨rfl, hp⟩⟩
  have J46 : ∀ (hq : own_nameP p1.toInt ↔ (8255 ≤ p1.toInt ∧ p1.toInt ≤ 8256)), ownFin p e below (ownFE s ({ frames := 1, cells := 0, slots := 0, locals := 16 } : Room).cells ({ frames := 1, cells := 0, slots := 0, locals := 16 } : Room).slots) (Q_own_nchar Z p1 h0 n0 ) (T33.setTop (mkF m 46 #[.val (.int p1)] [])) := by
    intro hq
    show ownFin _ _ _ _ _ (T33.setTop (mkF m 46 #[.val (.int p1)] []))
    refine ownVia (fun _ k => XS.iloadN X33.here hx rfl (hb hby d1_46) rfl k) ?_
    show ownFin _ _ _ _ _ (T33.setTop (mkF m 47 #[.val (.int p1)] [(.int p1)]))
    refine ownVia (fun _ k => XS.sipush X33.here hx rfl (hb hby d1_47) k) ?_
    show ownFin _ _ _ _ _ (T33.setTop (mkF m 50 #[.val (.int p1)] [(.int (8255 : Int32)), (.int p1)]))
    by_cases hc34 : p1 < (8255 : Int32)
    case pos =>
      have hc34I : p1.toInt < 8255 := (own_lti rfl (by decide)).mp hc34
      refine ownVia (fun _ k => XS.icmpYes X33.here hx rfl (pc0 := 50) (pc' := 64) rfl (hb hby d1_50) rfl (tlt hc34).1 (by decide) (by decide) k) ?_
      show ownFin _ _ _ _ _ (T33.setTop (mkF m 64 #[.val (.int p1)] []))
      exact J64 (fun z => absurd (hq.mp z) (by omega))
    case neg =>
      have hc34I : ¬ p1.toInt < 8255 := fun q => hc34 ((own_lti rfl (by decide)).mpr q)
      refine ownVia (fun _ k => XS.icmpNo X33.here hx rfl (hb hby d1_50) rfl (flt hc34).1 k) ?_
      show ownFin _ _ _ _ _ (T33.setTop (mkF m 53 #[.val (.int p1)] []))
      refine ownVia (fun _ k => XS.iloadN X33.here hx rfl (hb hby d1_53) rfl k) ?_
      show ownFin _ _ _ _ _ (T33.setTop (mkF m 54 #[.val (.int p1)] [(.int p1)]))
      refine ownVia (fun _ k => XS.sipush X33.here hx rfl (hb hby d1_54) k) ?_
      show ownFin _ _ _ _ _ (T33.setTop (mkF m 57 #[.val (.int p1)] [(.int (8256 : Int32)), (.int p1)]))
      by_cases hc35 : (8256 : Int32) < p1
      case pos =>
        have hc35I : 8256 < p1.toInt := (own_lti (by decide) rfl).mp hc35
        refine ownVia (fun _ k => XS.icmpYes X33.here hx rfl (pc0 := 57) (pc' := 64) rfl (hb hby d1_57) rfl (tlt hc35).2.2.1 (by decide) (by decide) k) ?_
        show ownFin _ _ _ _ _ (T33.setTop (mkF m 64 #[.val (.int p1)] []))
        exact J64 (fun z => absurd (hq.mp z) (by omega))
      case neg =>
        have hc35I : ¬ 8256 < p1.toInt := fun q => hc35 ((own_lti (by decide) rfl).mpr q)
        refine ownVia (fun _ k => XS.icmpNo X33.here hx rfl (hb hby d1_57) rfl (flt hc35).2.2.1 k) ?_
        show ownFin _ _ _ _ _ (T33.setTop (mkF m 60 #[.val (.int p1)] []))
        exact J60 (hq.mpr (by omega))
  have J32 : ∀ (hq : own_nameP p1.toInt ↔ (768 ≤ p1.toInt ∧ p1.toInt ≤ 879) ∨ (8255 ≤ p1.toInt ∧ p1.toInt ≤ 8256)), ownFin p e below (ownFE s ({ frames := 1, cells := 0, slots := 0, locals := 16 } : Room).cells ({ frames := 1, cells := 0, slots := 0, locals := 16 } : Room).slots) (Q_own_nchar Z p1 h0 n0 ) (T33.setTop (mkF m 32 #[.val (.int p1)] [])) := by
    intro hq
    show ownFin _ _ _ _ _ (T33.setTop (mkF m 32 #[.val (.int p1)] []))
    refine ownVia (fun _ k => XS.iloadN X33.here hx rfl (hb hby d1_32) rfl k) ?_
    show ownFin _ _ _ _ _ (T33.setTop (mkF m 33 #[.val (.int p1)] [(.int p1)]))
    refine ownVia (fun _ k => XS.sipush X33.here hx rfl (hb hby d1_33) k) ?_
    show ownFin _ _ _ _ _ (T33.setTop (mkF m 36 #[.val (.int p1)] [(.int (768 : Int32)), (.int p1)]))
    by_cases hc36 : p1 < (768 : Int32)
    case pos =>
      have hc36I : p1.toInt < 768 := (own_lti rfl (by decide)).mp hc36
      refine ownVia (fun _ k => XS.icmpYes X33.here hx rfl (pc0 := 36) (pc' := 46) rfl (hb hby d1_36) rfl (tlt hc36).1 (by decide) (by decide) k) ?_
      show ownFin _ _ _ _ _ (T33.setTop (mkF m 46 #[.val (.int p1)] []))
      exact J46 (own_iff_f (by omega) hq)
    case neg =>
      have hc36I : ¬ p1.toInt < 768 := fun q => hc36 ((own_lti rfl (by decide)).mpr q)
      refine ownVia (fun _ k => XS.icmpNo X33.here hx rfl (hb hby d1_36) rfl (flt hc36).1 k) ?_
      show ownFin _ _ _ _ _ (T33.setTop (mkF m 39 #[.val (.int p1)] []))
      refine ownVia (fun _ k => XS.iloadN X33.here hx rfl (hb hby d1_39) rfl k) ?_
      show ownFin _ _ _ _ _ (T33.setTop (mkF m 40 #[.val (.int p1)] [(.int p1)]))
      refine ownVia (fun _ k => XS.sipush X33.here hx rfl (hb hby d1_40) k) ?_
      show ownFin _ _ _ _ _ (T33.setTop (mkF m 43 #[.val (.int p1)] [(.int (879 : Int32)), (.int p1)]))
      by_cases hc37 : (879 : Int32) < p1
      case pos =>
        have hc37I : 879 < p1.toInt := (own_lti (by decide) rfl).mp hc37
        refine ownVia (fun _ k => XS.icmpNo X33.here hx rfl (hb hby d1_43) rfl (tlt hc37).2.2.2 k) ?_
        show ownFin _ _ _ _ _ (T33.setTop (mkF m 46 #[.val (.int p1)] []))
        exact J46 (own_iff_f (by omega) hq)
      case neg =>
        have hc37I : ¬ 879 < p1.toInt := fun q => hc37 ((own_lti (by decide) rfl).mpr q)
        refine ownVia (fun _ k => XS.icmpYes X33.here hx rfl (pc0 := 43) (pc' := 60) rfl (hb hby d1_43) rfl (flt hc37).2.2.2 (by decide) (by decide) k) ?_
        show ownFin _ _ _ _ _ (T33.setTop (mkF m 60 #[.val (.int p1)] []))
        exact J60 (own_iff_t (by omega) hq)
  have J25 : ∀ (hq : own_nameP p1.toInt ↔ p1.toInt = 183 ∨ (768 ≤ p1.toInt ∧ p1.toInt ≤ 879) ∨ (8255 ≤ p1.toInt ∧ p1.toInt ≤ 8256)), ownFin p e below (ownFE s ({ frames := 1, cells := 0, slots := 0, locals := 16 } : Room).cells ({ frames := 1, cells := 0, slots := 0, locals := 16 } : Room).slots) (Q_own_nchar Z p1 h0 n0 ) (T33.setTop (mkF m 25 #[.val (.int p1)] [])) := by
    intro hq
    show ownFin _ _ _ _ _ (T33.setTop (mkF m 25 #[.val (.int p1)] []))
    refine ownVia (fun _ k => XS.iloadN X33.here hx rfl (hb hby d1_25) rfl k) ?_
    show ownFin _ _ _ _ _ (T33.setTop (mkF m 26 #[.val (.int p1)] [(.int p1)]))
    refine ownVia (fun _ k => XS.sipush X33.here hx rfl (hb hby d1_26) k) ?_
    show ownFin _ _ _ _ _ (T33.setTop (mkF m 29 #[.val (.int p1)] [(.int (183 : Int32)), (.int p1)]))
    by_cases hc38 : p1 = (183 : Int32)
    case pos =>
      have hc38I : p1.toInt = 183 := (own_eqi rfl (by decide)).mp hc38
      refine ownVia (fun _ k => XS.icmpYes X33.here hx rfl (pc0 := 29) (pc' := 60) rfl (hb hby d1_29) rfl (teq hc38).1 (by decide) (by decide) k) ?_
      show ownFin _ _ _ _ _ (T33.setTop (mkF m 60 #[.val (.int p1)] []))
      exact J60 (own_iff_t (by omega) hq)
    case neg =>
      have hc38I : ¬ p1.toInt = 183 := fun q => hc38 ((own_eqi rfl (by decide)).mpr q)
      refine ownVia (fun _ k => XS.icmpNo X33.here hx rfl (hb hby d1_29) rfl (feq hc38).1 k) ?_
      show ownFin _ _ _ _ _ (T33.setTop (mkF m 32 #[.val (.int p1)] []))
      exact J32 (own_iff_f (by omega) hq)
  have J13 : ∀ (hq : own_nameP p1.toInt ↔ (48 ≤ p1.toInt ∧ p1.toInt ≤ 57) ∨ p1.toInt = 183 ∨ (768 ≤ p1.toInt ∧ p1.toInt ≤ 879) ∨ (8255 ≤ p1.toInt ∧ p1.toInt ≤ 8256)), ownFin p e below (ownFE s ({ frames := 1, cells := 0, slots := 0, locals := 16 } : Room).cells ({ frames := 1, cells := 0, slots := 0, locals := 16 } : Room).slots) (Q_own_nchar Z p1 h0 n0 ) (T33.setTop (mkF m 13 #[.val (.int p1)] [])) := by
    intro hq
    show ownFin _ _ _ _ _ (T33.setTop (mkF m 13 #[.val (.int p1)] []))
    refine ownVia (fun _ k => XS.iloadN X33.here hx rfl (hb hby d1_13) rfl k) ?_
    show ownFin _ _ _ _ _ (T33.setTop (mkF m 14 #[.val (.int p1)] [(.int p1)]))
    refine ownVia (fun _ k => XS.bipush X33.here hx rfl (hb hby d1_14) k) ?_
    show ownFin _ _ _ _ _ (T33.setTop (mkF m 16 #[.val (.int p1)] [(.int (48 : Int32)), (.int p1)]))
    by_cases hc39 : p1 < (48 : Int32)
    case pos =>
      have hc39I : p1.toInt < 48 := (own_lti rfl (by decide)).mp hc39
      refine ownVia (fun _ k => XS.icmpYes X33.here hx rfl (pc0 := 16) (pc' := 25) rfl (hb hby d1_16) rfl (tlt hc39).1 (by decide) (by decide) k) ?_
      show ownFin _ _ _ _ _ (T33.setTop (mkF m 25 #[.val (.int p1)] []))
      exact J25 (own_iff_f (by omega) hq)
    case neg =>
      have hc39I : ¬ p1.toInt < 48 := fun q => hc39 ((own_lti rfl (by decide)).mpr q)
      refine ownVia (fun _ k => XS.icmpNo X33.here hx rfl (hb hby d1_16) rfl (flt hc39).1 k) ?_
      show ownFin _ _ _ _ _ (T33.setTop (mkF m 19 #[.val (.int p1)] []))
      refine ownVia (fun _ k => XS.iloadN X33.here hx rfl (hb hby d1_19) rfl k) ?_
      show ownFin _ _ _ _ _ (T33.setTop (mkF m 20 #[.val (.int p1)] [(.int p1)]))
      refine ownVia (fun _ k => XS.bipush X33.here hx rfl (hb hby d1_20) k) ?_
      show ownFin _ _ _ _ _ (T33.setTop (mkF m 22 #[.val (.int p1)] [(.int (57 : Int32)), (.int p1)]))
      by_cases hc40 : (57 : Int32) < p1
      case pos =>
        have hc40I : 57 < p1.toInt := (own_lti (by decide) rfl).mp hc40
        refine ownVia (fun _ k => XS.icmpNo X33.here hx rfl (hb hby d1_22) rfl (tlt hc40).2.2.2 k) ?_
        show ownFin _ _ _ _ _ (T33.setTop (mkF m 25 #[.val (.int p1)] []))
        exact J25 (own_iff_f (by omega) hq)
      case neg =>
        have hc40I : ¬ 57 < p1.toInt := fun q => hc40 ((own_lti (by decide) rfl).mpr q)
        refine ownVia (fun _ k => XS.icmpYes X33.here hx rfl (pc0 := 22) (pc' := 60) rfl (hb hby d1_22) rfl (flt hc40).2.2.2 (by decide) (by decide) k) ?_
        show ownFin _ _ _ _ _ (T33.setTop (mkF m 60 #[.val (.int p1)] []))
        exact J60 (own_iff_t (by omega) hq)
  have J7 : ∀ (hq : own_nameP p1.toInt ↔ p1.toInt = 45 ∨ (48 ≤ p1.toInt ∧ p1.toInt ≤ 57) ∨ p1.toInt = 183 ∨ (768 ≤ p1.toInt ∧ p1.toInt ≤ 879) ∨ (8255 ≤ p1.toInt ∧ p1.toInt ≤ 8256)), ownFin p e below (ownFE s ({ frames := 1, cells := 0, slots := 0, locals := 16 } : Room).cells ({ frames := 1, cells := 0, slots := 0, locals := 16 } : Room).slots) (Q_own_nchar Z p1 h0 n0 ) (T33.setTop (mkF m 7 #[.val (.int p1)] [])) := by
    intro hq
    show ownFin _ _ _ _ _ (T33.setTop (mkF m 7 #[.val (.int p1)] []))
    refine ownVia (fun _ k => XS.iloadN X33.here hx rfl (hb hby d1_7) rfl k) ?_
    show ownFin _ _ _ _ _ (T33.setTop (mkF m 8 #[.val (.int p1)] [(.int p1)]))
    refine ownVia (fun _ k => XS.bipush X33.here hx rfl (hb hby d1_8) k) ?_
    show ownFin _ _ _ _ _ (T33.setTop (mkF m 10 #[.val (.int p1)] [(.int (45 : Int32)), (.int p1)]))
    by_cases hc41 : p1 = (45 : Int32)
    case pos =>
      have hc41I : p1.toInt = 45 := (own_eqi rfl (by decide)).mp hc41
      refine ownVia (fun _ k => XS.icmpYes X33.here hx rfl (pc0 := 10) (pc' := 60) rfl (hb hby d1_10) rfl (teq hc41).1 (by decide) (by decide) k) ?_
      show ownFin _ _ _ _ _ (T33.setTop (mkF m 60 #[.val (.int p1)] []))
      exact J60 (own_iff_t (by omega) hq)
    case neg =>
      have hc41I : ¬ p1.toInt = 45 := fun q => hc41 ((own_eqi rfl (by decide)).mpr q)
      refine ownVia (fun _ k => XS.icmpNo X33.here hx rfl (hb hby d1_10) rfl (feq hc41).1 k) ?_
      show ownFin _ _ _ _ _ (T33.setTop (mkF m 13 #[.val (.int p1)] []))
      exact J13 (own_iff_f (by omega) hq)
  rcases hr with ⟨rfl, hr⟩ | ⟨rfl, hr⟩
  case inl =>
    show ownFin _ _ _ _ _ (T33.setTop (mkF m 4 #[.val (.int p1)] [(.int (1 : Int32))]))
    refine ownVia (fun _ k => XS.ifYes X33.here hx rfl (pc0 := 4) (pc' := 60) rfl (hb hby d1_4) rfl ((if0 _ _).trans (feq (by decide)).2) (by decide) (by decide) k) ?_
    show ownFin _ _ _ _ _ (T33.setTop (mkF m 60 #[.val (.int p1)] []))
    exact J60 (Or.inl hr)
  case inr =>
    show ownFin _ _ _ _ _ (T33.setTop (mkF m 4 #[.val (.int p1)] [(.int (0 : Int32))]))
    refine ownVia (fun _ k => XS.ifNo X33.here hx rfl (hb hby d1_4) rfl ((if0 _ _).trans (teq rfl).2) k) ?_
    show ownFin _ _ _ _ _ (T33.setTop (mkF m 7 #[.val (.int p1)] []))
    exact J7 (own_iff_f hr Iff.rfl)
theorem own_pn1 : plainName "com/example/lacuna/lacuna/rdf/BlankNodeIsNameCharPinLaw" = true := by first | (simp [plainName, overriddenIn]; done) | decide +kernel
theorem own_ef42 (m : MethodId) (p1 : Int32) (p2 : Int32) : entryFrame m #[(.int p1), (.int p2)] maxLocals = mkF m 0 #[.val (.int p1), .val (.int p2), .unset, .unset, .unset, .unset, .unset, .unset, .unset, .unset, .unset, .unset, .unset, .unset, .unset, .unset] [] := by first | (simp [entryFrame, mkF, argsToLocals, Value.category, maxLocals]; done) | rfl
def Q_own_law (Z : State) (p1 : Int32) (p2 : Int32) (h0 : Heap) (n0 : Nat)  : Option Value → Heap → List Loc → Prop := fun v h L => v = some (.int 1) ∧ Fr n0 L
set_option maxRecDepth 65536 in
set_option maxHeartbeats 40000000 in
theorem own_law (l : Launch) (Z : State) (a0 : Array Value) (hw : ∀ d ∈ tables_1, d.before a0 Z = true) (ws : List Jvm.Cond) (p1 : Int32) (p2 : Int32) (h0 : Heap) (n0 : Nat)  (Z0 : n0 ≤ h0.size)  :
    ownMet l Z x code maxLocals ret ws room_1 #[(.int p1), (.int p2)] h0 (Q_own_law Z p1 p2 h0 n0 ) := by
  refine ownBody (plainFor_of_name own_pn1) ?_
  intro p e s m below meth c T0 hx hby hml hret hlk hZ hown hnm X0 e0
  have N0 : Fr n0 [] := Fr.nil n0
  have hown : s.vm.findClass "com/example/lacuna/lacuna/rdf/BlankNodeIsNameCharPinLaw" = some m.cls := hown
  refine ownVia (fun _ k => castTop (own_ef42 m p1 p2) k) ?_
  show ownFin _ _ _ _ _ (T0.setTop (mkF m 0 #[.val (.int p1), .val (.int p2), .unset, .unset, .unset, .unset, .unset, .unset, .unset, .unset, .unset, .unset, .unset, .unset, .unset, .unset] []))
  refine ownVia (fun _ k => XS.bipush X0.here hx rfl (hb hby at_0) k) ?_
  show ownFin _ _ _ _ _ (T0.setTop (mkF m 2 #[.val (.int p1), .val (.int p2), .unset, .unset, .unset, .unset, .unset, .unset, .unset, .unset, .unset, .unset, .unset, .unset, .unset, .unset] [(.int (38 : Int32))]))
  refine ownNewP X0 hx hZ (hw _ (List.mem_of_getElem? (i := 0) rfl)) e0 "[J" (by decide) (by decide) (38) (by decide) (38) (by decide) (by decide) (by decide) (by decide) (hb hby at_2) ?_
  intro T43 h43 k_b1 b1 g43 X43 e43 E43 A_b1 E_b1
  have ge_b1 : n0 ≤ b1 := Nat.le_trans Z0 (Nat.le_of_eq g43.symm)
  have Z0 := own_sz Z0 E43
  have A_b1 : Arv Z h43 b1 k_b1 .long (38 : Int32) [(.long (0 : Int64)), (.long (0 : Int64)), (.long (0 : Int64)), (.long (0 : Int64)), (.long (0 : Int64)), (.long (0 : Int64)), (.long (0 : Int64)), (.long (0 : Int64)), (.long (0 : Int64)), (.long (0 : Int64)), (.long (0 : Int64)), (.long (0 : Int64)), (.long (0 : Int64)), (.long (0 : Int64)), (.long (0 : Int64)), (.long (0 : Int64)), (.long (0 : Int64)), (.long (0 : Int64)), (.long (0 : Int64)), (.long (0 : Int64)), (.long (0 : Int64)), (.long (0 : Int64)), (.long (0 : Int64)), (.long (0 : Int64)), (.long (0 : Int64)), (.long (0 : Int64)), (.long (0 : Int64)), (.long (0 : Int64)), (.long (0 : Int64)), (.long (0 : Int64)), (.long (0 : Int64)), (.long (0 : Int64)), (.long (0 : Int64)), (.long (0 : Int64)), (.long (0 : Int64)), (.long (0 : Int64)), (.long (0 : Int64)), (.long (0 : Int64))] (.long (0 : Int64)) := A_b1
  show ownFin _ _ _ _ _ (T43.setTop (mkF m 4 #[.val (.int p1), .val (.int p2), .unset, .unset, .unset, .unset, .unset, .unset, .unset, .unset, .unset, .unset, .unset, .unset, .unset, .unset] [(.ref b1)]))
  refine ownVia (fun _ k => XS.dup X43.here hx rfl (hb hby at_4) rfl rfl k) ?_
  show ownFin _ _ _ _ _ (T43.setTop (mkF m 5 #[.val (.int p1), .val (.int p2), .unset, .unset, .unset, .unset, .unset, .unset, .unset, .unset, .unset, .unset, .unset, .unset, .unset, .unset] [(.ref b1), (.ref b1)]))
  refine ownVia (fun _ k => XS.iconst X43.here hx rfl (hb hby at_5) k) ?_
  show ownFin _ _ _ _ _ (T43.setTop (mkF m 6 #[.val (.int p1), .val (.int p2), .unset, .unset, .unset, .unset, .unset, .unset, .unset, .unset, .unset, .unset, .unset, .unset, .unset, .unset] [(.int (0 : Int32)), (.ref b1), (.ref b1)]))
  refine ownVia (fun _ k => X43.ldc2Long hx hown (mvT hZ (hw _ (List.mem_of_getElem? (i := 1) rfl))) (g := (mkF m 6 #[.val (.int p1), .val (.int p2), .unset, .unset, .unset, .unset, .unset, .unset, .unset, .unset, .unset, .unset, .unset, .unset, .unset, .unset] [(.int (0 : Int32)), (.ref b1), (.ref b1)])) rfl (hb hby at_6) _ k) ?_
  show ownFin _ _ _ _ _ (T43.setTop (mkF m 9 #[.val (.int p1), .val (.int p2), .unset, .unset, .unset, .unset, .unset, .unset, .unset, .unset, .unset, .unset, .unset, .unset, .unset, .unset] [(.long (-2147483648 : Int64)), (.int (0 : Int32)), (.ref b1), (.ref b1)]))
  refine ownLastore X43 hx hZ e43 A_b1 ⟨by decide, by decide⟩ (0) (by decide) (Nat.le_of_ble_eq_true rfl) N0 ge_b1 (hb hby at_9) ?_
  intro T44 h44 L44 X44 e44 N44 W44 A_b1
  have E_b1 := E_b1.wr W44
  have Z0 := own_szW Z0 W44
  have A_b1 : Arv Z h44 b1 k_b1 .long (38 : Int32) [(.long (-2147483648 : Int64)), (.long (0 : Int64)), (.long (0 : Int64)), (.long (0 : Int64)), (.long (0 : Int64)), (.long (0 : Int64)), (.long (0 : Int64)), (.long (0 : Int64)), (.long (0 : Int64)), (.long (0 : Int64)), (.long (0 : Int64)), (.long (0 : Int64)), (.long (0 : Int64)), (.long (0 : Int64)), (.long (0 : Int64)), (.long (0 : Int64)), (.long (0 : Int64)), (.long (0 : Int64)), (.long (0 : Int64)), (.long (0 : Int64)), (.long (0 : Int64)), (.long (0 : Int64)), (.long (0 : Int64)), (.long (0 : Int64)), (.long (0 : Int64)), (.long (0 : Int64)), (.long (0 : Int64)), (.long (0 : Int64)), (.long (0 : Int64)), (.long (0 : Int64)), (.long (0 : Int64)), (.long (0 : Int64)), (.long (0 : Int64)), (.long (0 : Int64)), (.long (0 : Int64)), (.long (0 : Int64)), (.long (0 : Int64)), (.long (0 : Int64))] (.long (0 : Int64)) := A_b1
  show ownFin _ _ _ _ _ (T44.setTop (mkF m 10 #[.val (.int p1), .val (.int p2), .unset, .unset, .unset, .unset, .unset, .unset, .unset, .unset, .unset, .unset, .unset, .unset, .unset, .unset] [(.ref b1)]))
  refine ownVia (fun _ k => XS.dup X44.here hx rfl (hb hby at_10) rfl rfl k) ?_
  show ownFin _ _ _ _ _ (T44.setTop (mkF m 11 #[.val (.int p1), .val (.int p2), .unset, .unset, .unset, .unset, .unset, .unset, .unset, .unset, .unset, .unset, .unset, .unset, .unset, .unset] [(.ref b1), (.ref b1)]))
  refine ownVia (fun _ k => XS.iconst X44.here hx rfl (hb hby at_11) k) ?_
  show ownFin _ _ _ _ _ (T44.setTop (mkF m 12 #[.val (.int p1), .val (.int p2), .unset, .unset, .unset, .unset, .unset, .unset, .unset, .unset, .unset, .unset, .unset, .unset, .unset, .unset] [(.int (1 : Int32)), (.ref b1), (.ref b1)]))
  refine ownVia (fun _ k => X44.ldc2Long hx hown (mvT hZ (hw _ (List.mem_of_getElem? (i := 2) rfl))) (g := (mkF m 12 #[.val (.int p1), .val (.int p2), .unset, .unset, .unset, .unset, .unset, .unset, .unset, .unset, .unset, .unset, .unset, .unset, .unset, .unset] [(.int (1 : Int32)), (.ref b1), (.ref b1)])) rfl (hb hby at_12) _ k) ?_
  show ownFin _ _ _ _ _ (T44.setTop (mkF m 15 #[.val (.int p1), .val (.int p2), .unset, .unset, .unset, .unset, .unset, .unset, .unset, .unset, .unset, .unset, .unset, .unset, .unset, .unset] [(.long (45 : Int64)), (.int (1 : Int32)), (.ref b1), (.ref b1)]))
  refine ownLastore X44 hx hZ e44 A_b1 ⟨by decide, by decide⟩ (1) (by decide) (Nat.le_of_ble_eq_true rfl) N44 ge_b1 (hb hby at_15) ?_
  intro T45 h45 L45 X45 e45 N45 W45 A_b1
  have E_b1 := E_b1.wr W45
  have Z0 := own_szW Z0 W45
  have A_b1 : Arv Z h45 b1 k_b1 .long (38 : Int32) [(.long (-2147483648 : Int64)), (.long (45 : Int64)), (.long (0 : Int64)), (.long (0 : Int64)), (.long (0 : Int64)), (.long (0 : Int64)), (.long (0 : Int64)), (.long (0 : Int64)), (.long (0 : Int64)), (.long (0 : Int64)), (.long (0 : Int64)), (.long (0 : Int64)), (.long (0 : Int64)), (.long (0 : Int64)), (.long (0 : Int64)), (.long (0 : Int64)), (.long (0 : Int64)), (.long (0 : Int64)), (.long (0 : Int64)), (.long (0 : Int64)), (.long (0 : Int64)), (.long (0 : Int64)), (.long (0 : Int64)), (.long (0 : Int64)), (.long (0 : Int64)), (.long (0 : Int64)), (.long (0 : Int64)), (.long (0 : Int64)), (.long (0 : Int64)), (.long (0 : Int64)), (.long (0 : Int64)), (.long (0 : Int64)), (.long (0 : Int64)), (.long (0 : Int64)), (.long (0 : Int64)), (.long (0 : Int64)), (.long (0 : Int64)), (.long (0 : Int64))] (.long (0 : Int64)) := A_b1
  show ownFin _ _ _ _ _ (T45.setTop (mkF m 16 #[.val (.int p1), .val (.int p2), .unset, .unset, .unset, .unset, .unset, .unset, .unset, .unset, .unset, .unset, .unset, .unset, .unset, .unset] [(.ref b1)]))
  refine ownVia (fun _ k => XS.dup X45.here hx rfl (hb hby at_16) rfl rfl k) ?_
  show ownFin _ _ _ _ _ (T45.setTop (mkF m 17 #[.val (.int p1), .val (.int p2), .unset, .unset, .unset, .unset, .unset, .unset, .unset, .unset, .unset, .unset, .unset, .unset, .unset, .unset] [(.ref b1), (.ref b1)]))
  refine ownVia (fun _ k => XS.iconst X45.here hx rfl (hb hby at_17) k) ?_
  show ownFin _ _ _ _ _ (T45.setTop (mkF m 18 #[.val (.int p1), .val (.int p2), .unset, .unset, .unset, .unset, .unset, .unset, .unset, .unset, .unset, .unset, .unset, .unset, .unset, .unset] [(.int (2 : Int32)), (.ref b1), (.ref b1)]))
  refine ownVia (fun _ k => X45.ldc2Long hx hown (mvT hZ (hw _ (List.mem_of_getElem? (i := 3) rfl))) (g := (mkF m 18 #[.val (.int p1), .val (.int p2), .unset, .unset, .unset, .unset, .unset, .unset, .unset, .unset, .unset, .unset, .unset, .unset, .unset, .unset] [(.int (2 : Int32)), (.ref b1), (.ref b1)])) rfl (hb hby at_18) _ k) ?_
  show ownFin _ _ _ _ _ (T45.setTop (mkF m 21 #[.val (.int p1), .val (.int p2), .unset, .unset, .unset, .unset, .unset, .unset, .unset, .unset, .unset, .unset, .unset, .unset, .unset, .unset] [(.long (46 : Int64)), (.int (2 : Int32)), (.ref b1), (.ref b1)]))
  refine ownLastore X45 hx hZ e45 A_b1 ⟨by decide, by decide⟩ (2) (by decide) (Nat.le_of_ble_eq_true rfl) N45 ge_b1 (hb hby at_21) ?_
  intro T46 h46 L46 X46 e46 N46 W46 A_b1
  have E_b1 := E_b1.wr W46
  have Z0 := own_szW Z0 W46
  have A_b1 : Arv Z h46 b1 k_b1 .long (38 : Int32) [(.long (-2147483648 : Int64)), (.long (45 : Int64)), (.long (46 : Int64)), (.long (0 : Int64)), (.long (0 : Int64)), (.long (0 : Int64)), (.long (0 : Int64)), (.long (0 : Int64)), (.long (0 : Int64)), (.long (0 : Int64)), (.long (0 : Int64)), (.long (0 : Int64)), (.long (0 : Int64)), (.long (0 : Int64)), (.long (0 : Int64)), (.long (0 : Int64)), (.long (0 : Int64)), (.long (0 : Int64)), (.long (0 : Int64)), (.long (0 : Int64)), (.long (0 : Int64)), (.long (0 : Int64)), (.long (0 : Int64)), (.long (0 : Int64)), (.long (0 : Int64)), (.long (0 : Int64)), (.long (0 : Int64)), (.long (0 : Int64)), (.long (0 : Int64)), (.long (0 : Int64)), (.long (0 : Int64)), (.long (0 : Int64)), (.long (0 : Int64)), (.long (0 : Int64)), (.long (0 : Int64)), (.long (0 : Int64)), (.long (0 : Int64)), (.long (0 : Int64))] (.long (0 : Int64)) := A_b1
  show ownFin _ _ _ _ _ (T46.setTop (mkF m 22 #[.val (.int p1), .val (.int p2), .unset, .unset, .unset, .unset, .unset, .unset, .unset, .unset, .unset, .unset, .unset, .unset, .unset, .unset] [(.ref b1)]))
  refine ownVia (fun _ k => XS.dup X46.here hx rfl (hb hby at_22) rfl rfl k) ?_
  show ownFin _ _ _ _ _ (T46.setTop (mkF m 23 #[.val (.int p1), .val (.int p2), .unset, .unset, .unset, .unset, .unset, .unset, .unset, .unset, .unset, .unset, .unset, .unset, .unset, .unset] [(.ref b1), (.ref b1)]))
  refine ownVia (fun _ k => XS.iconst X46.here hx rfl (hb hby at_23) k) ?_
  show ownFin _ _ _ _ _ (T46.setTop (mkF m 24 #[.val (.int p1), .val (.int p2), .unset, .unset, .unset, .unset, .unset, .unset, .unset, .unset, .unset, .unset, .unset, .unset, .unset, .unset] [(.int (3 : Int32)), (.ref b1), (.ref b1)]))
  refine ownVia (fun _ k => X46.ldc2Long hx hown (mvT hZ (hw _ (List.mem_of_getElem? (i := 4) rfl))) (g := (mkF m 24 #[.val (.int p1), .val (.int p2), .unset, .unset, .unset, .unset, .unset, .unset, .unset, .unset, .unset, .unset, .unset, .unset, .unset, .unset] [(.int (3 : Int32)), (.ref b1), (.ref b1)])) rfl (hb hby at_24) _ k) ?_
  show ownFin _ _ _ _ _ (T46.setTop (mkF m 27 #[.val (.int p1), .val (.int p2), .unset, .unset, .unset, .unset, .unset, .unset, .unset, .unset, .unset, .unset, .unset, .unset, .unset, .unset] [(.long (48 : Int64)), (.int (3 : Int32)), (.ref b1), (.ref b1)]))
  refine ownLastore X46 hx hZ e46 A_b1 ⟨by decide, by decide⟩ (3) (by decide) (Nat.le_of_ble_eq_true rfl) N46 ge_b1 (hb hby at_27) ?_
  intro T47 h47 L47 X47 e47 N47 W47 A_b1
  have E_b1 := E_b1.wr W47
  have Z0 := own_szW Z0 W47
  have A_b1 : Arv Z h47 b1 k_b1 .long (38 : Int32) [(.long (-2147483648 : Int64)), (.long (45 : Int64)), (.long (46 : Int64)), (.long (48 : Int64)), (.long (0 : Int64)), (.long (0 : Int64)), (.long (0 : Int64)), (.long (0 : Int64)), (.long (0 : Int64)), (.long (0 : Int64)), (.long (0 : Int64)), (.long (0 : Int64)), (.long (0 : Int64)), (.long (0 : Int64)), (.long (0 : Int64)), (.long (0 : Int64)), (.long (0 : Int64)), (.long (0 : Int64)), (.long (0 : Int64)), (.long (0 : Int64)), (.long (0 : Int64)), (.long (0 : Int64)), (.long (0 : Int64)), (.long (0 : Int64)), (.long (0 : Int64)), (.long (0 : Int64)), (.long (0 : Int64)), (.long (0 : Int64)), (.long (0 : Int64)), (.long (0 : Int64)), (.long (0 : Int64)), (.long (0 : Int64)), (.long (0 : Int64)), (.long (0 : Int64)), (.long (0 : Int64)), (.long (0 : Int64)), (.long (0 : Int64)), (.long (0 : Int64))] (.long (0 : Int64)) := A_b1
  show ownFin _ _ _ _ _ (T47.setTop (mkF m 28 #[.val (.int p1), .val (.int p2), .unset, .unset, .unset, .unset, .unset, .unset, .unset, .unset, .unset, .unset, .unset, .unset, .unset, .unset] [(.ref b1)]))
  refine ownVia (fun _ k => XS.dup X47.here hx rfl (hb hby at_28) rfl rfl k) ?_
  show ownFin _ _ _ _ _ (T47.setTop (mkF m 29 #[.val (.int p1), .val (.int p2), .unset, .unset, .unset, .unset, .unset, .unset, .unset, .unset, .unset, .unset, .unset, .unset, .unset, .unset] [(.ref b1), (.ref b1)]))
  refine ownVia (fun _ k => XS.iconst X47.here hx rfl (hb hby at_29) k) ?_
  show ownFin _ _ _ _ _ (T47.setTop (mkF m 30 #[.val (.int p1), .val (.int p2), .unset, .unset, .unset, .unset, .unset, .unset, .unset, .unset, .unset, .unset, .unset, .unset, .unset, .unset] [(.int (4 : Int32)), (.ref b1), (.ref b1)]))
  refine ownVia (fun _ k => X47.ldc2Long hx hown (mvT hZ (hw _ (List.mem_of_getElem? (i := 5) rfl))) (g := (mkF m 30 #[.val (.int p1), .val (.int p2), .unset, .unset, .unset, .unset, .unset, .unset, .unset, .unset, .unset, .unset, .unset, .unset, .unset, .unset] [(.int (4 : Int32)), (.ref b1), (.ref b1)])) rfl (hb hby at_30) _ k) ?_
  show ownFin _ _ _ _ _ (T47.setTop (mkF m 33 #[.val (.int p1), .val (.int p2), .unset, .unset, .unset, .unset, .unset, .unset, .unset, .unset, .unset, .unset, .unset, .unset, .unset, .unset] [(.long (59 : Int64)), (.int (4 : Int32)), (.ref b1), (.ref b1)]))
  refine ownLastore X47 hx hZ e47 A_b1 ⟨by decide, by decide⟩ (4) (by decide) (Nat.le_of_ble_eq_true rfl) N47 ge_b1 (hb hby at_33) ?_
  intro T48 h48 L48 X48 e48 N48 W48 A_b1
  have E_b1 := E_b1.wr W48
  have Z0 := own_szW Z0 W48
  have A_b1 : Arv Z h48 b1 k_b1 .long (38 : Int32) [(.long (-2147483648 : Int64)), (.long (45 : Int64)), (.long (46 : Int64)), (.long (48 : Int64)), (.long (59 : Int64)), (.long (0 : Int64)), (.long (0 : Int64)), (.long (0 : Int64)), (.long (0 : Int64)), (.long (0 : Int64)), (.long (0 : Int64)), (.long (0 : Int64)), (.long (0 : Int64)), (.long (0 : Int64)), (.long (0 : Int64)), (.long (0 : Int64)), (.long (0 : Int64)), (.long (0 : Int64)), (.long (0 : Int64)), (.long (0 : Int64)), (.long (0 : Int64)), (.long (0 : Int64)), (.long (0 : Int64)), (.long (0 : Int64)), (.long (0 : Int64)), (.long (0 : Int64)), (.long (0 : Int64)), (.long (0 : Int64)), (.long (0 : Int64)), (.long (0 : Int64)), (.long (0 : Int64)), (.long (0 : Int64)), (.long (0 : Int64)), (.long (0 : Int64)), (.long (0 : Int64)), (.long (0 : Int64)), (.long (0 : Int64)), (.long (0 : Int64))] (.long (0 : Int64)) := A_b1
  show ownFin _ _ _ _ _ (T48.setTop (mkF m 34 #[.val (.int p1), .val (.int p2), .unset, .unset, .unset, .unset, .unset, .unset, .unset, .unset, .unset, .unset, .unset, .unset, .unset, .unset] [(.ref b1)]))
  refine ownVia (fun _ k => XS.dup X48.here hx rfl (hb hby at_34) rfl rfl k) ?_
  show ownFin _ _ _ _ _ (T48.setTop (mkF m 35 #[.val (.int p1), .val (.int p2), .unset, .unset, .unset, .unset, .unset, .unset, .unset, .unset, .unset, .unset, .unset, .unset, .unset, .unset] [(.ref b1), (.ref b1)]))
  refine ownVia (fun _ k => XS.iconst X48.here hx rfl (hb hby at_35) k) ?_
  show ownFin _ _ _ _ _ (T48.setTop (mkF m 36 #[.val (.int p1), .val (.int p2), .unset, .unset, .unset, .unset, .unset, .unset, .unset, .unset, .unset, .unset, .unset, .unset, .unset, .unset] [(.int (5 : Int32)), (.ref b1), (.ref b1)]))
  refine ownVia (fun _ k => X48.ldc2Long hx hown (mvT hZ (hw _ (List.mem_of_getElem? (i := 6) rfl))) (g := (mkF m 36 #[.val (.int p1), .val (.int p2), .unset, .unset, .unset, .unset, .unset, .unset, .unset, .unset, .unset, .unset, .unset, .unset, .unset, .unset] [(.int (5 : Int32)), (.ref b1), (.ref b1)])) rfl (hb hby at_36) _ k) ?_
  show ownFin _ _ _ _ _ (T48.setTop (mkF m 39 #[.val (.int p1), .val (.int p2), .unset, .unset, .unset, .unset, .unset, .unset, .unset, .unset, .unset, .unset, .unset, .unset, .unset, .unset] [(.long (65 : Int64)), (.int (5 : Int32)), (.ref b1), (.ref b1)]))
  refine ownLastore X48 hx hZ e48 A_b1 ⟨by decide, by decide⟩ (5) (by decide) (Nat.le_of_ble_eq_true rfl) N48 ge_b1 (hb hby at_39) ?_
  intro T49 h49 L49 X49 e49 N49 W49 A_b1
  have E_b1 := E_b1.wr W49
  have Z0 := own_szW Z0 W49
  have A_b1 : Arv Z h49 b1 k_b1 .long (38 : Int32) [(.long (-2147483648 : Int64)), (.long (45 : Int64)), (.long (46 : Int64)), (.long (48 : Int64)), (.long (59 : Int64)), (.long (65 : Int64)), (.long (0 : Int64)), (.long (0 : Int64)), (.long (0 : Int64)), (.long (0 : Int64)), (.long (0 : Int64)), (.long (0 : Int64)), (.long (0 : Int64)), (.long (0 : Int64)), (.long (0 : Int64)), (.long (0 : Int64)), (.long (0 : Int64)), (.long (0 : Int64)), (.long (0 : Int64)), (.long (0 : Int64)), (.long (0 : Int64)), (.long (0 : Int64)), (.long (0 : Int64)), (.long (0 : Int64)), (.long (0 : Int64)), (.long (0 : Int64)), (.long (0 : Int64)), (.long (0 : Int64)), (.long (0 : Int64)), (.long (0 : Int64)), (.long (0 : Int64)), (.long (0 : Int64)), (.long (0 : Int64)), (.long (0 : Int64)), (.long (0 : Int64)), (.long (0 : Int64)), (.long (0 : Int64)), (.long (0 : Int64))] (.long (0 : Int64)) := A_b1
  show ownFin _ _ _ _ _ (T49.setTop (mkF m 40 #[.val (.int p1), .val (.int p2), .unset, .unset, .unset, .unset, .unset, .unset, .unset, .unset, .unset, .unset, .unset, .unset, .unset, .unset] [(.ref b1)]))
  refine ownVia (fun _ k => XS.dup X49.here hx rfl (hb hby at_40) rfl rfl k) ?_
  show ownFin _ _ _ _ _ (T49.setTop (mkF m 41 #[.val (.int p1), .val (.int p2), .unset, .unset, .unset, .unset, .unset, .unset, .unset, .unset, .unset, .unset, .unset, .unset, .unset, .unset] [(.ref b1), (.ref b1)]))
  refine ownVia (fun _ k => XS.bipush X49.here hx rfl (hb hby at_41) k) ?_
  show ownFin _ _ _ _ _ (T49.setTop (mkF m 43 #[.val (.int p1), .val (.int p2), .unset, .unset, .unset, .unset, .unset, .unset, .unset, .unset, .unset, .unset, .unset, .unset, .unset, .unset] [(.int (6 : Int32)), (.ref b1), (.ref b1)]))
  refine ownVia (fun _ k => X49.ldc2Long hx hown (mvT hZ (hw _ (List.mem_of_getElem? (i := 7) rfl))) (g := (mkF m 43 #[.val (.int p1), .val (.int p2), .unset, .unset, .unset, .unset, .unset, .unset, .unset, .unset, .unset, .unset, .unset, .unset, .unset, .unset] [(.int (6 : Int32)), (.ref b1), (.ref b1)])) rfl (hb hby at_43) _ k) ?_
  show ownFin _ _ _ _ _ (T49.setTop (mkF m 46 #[.val (.int p1), .val (.int p2), .unset, .unset, .unset, .unset, .unset, .unset, .unset, .unset, .unset, .unset, .unset, .unset, .unset, .unset] [(.long (91 : Int64)), (.int (6 : Int32)), (.ref b1), (.ref b1)]))
  refine ownLastore X49 hx hZ e49 A_b1 ⟨by decide, by decide⟩ (6) (by decide) (Nat.le_of_ble_eq_true rfl) N49 ge_b1 (hb hby at_46) ?_
  intro T50 h50 L50 X50 e50 N50 W50 A_b1
  have E_b1 := E_b1.wr W50
  have Z0 := own_szW Z0 W50
  have A_b1 : Arv Z h50 b1 k_b1 .long (38 : Int32) [(.long (-2147483648 : Int64)), (.long (45 : Int64)), (.long (46 : Int64)), (.long (48 : Int64)), (.long (59 : Int64)), (.long (65 : Int64)), (.long (91 : Int64)), (.long (0 : Int64)), (.long (0 : Int64)), (.long (0 : Int64)), (.long (0 : Int64)), (.long (0 : Int64)), (.long (0 : Int64)), (.long (0 : Int64)), (.long (0 : Int64)), (.long (0 : Int64)), (.long (0 : Int64)), (.long (0 : Int64)), (.long (0 : Int64)), (.long (0 : Int64)), (.long (0 : Int64)), (.long (0 : Int64)), (.long (0 : Int64)), (.long (0 : Int64)), (.long (0 : Int64)), (.long (0 : Int64)), (.long (0 : Int64)), (.long (0 : Int64)), (.long (0 : Int64)), (.long (0 : Int64)), (.long (0 : Int64)), (.long (0 : Int64)), (.long (0 : Int64)), (.long (0 : Int64)), (.long (0 : Int64)), (.long (0 : Int64)), (.long (0 : Int64)), (.long (0 : Int64))] (.long (0 : Int64)) := A_b1
  show ownFin _ _ _ _ _ (T50.setTop (mkF m 47 #[.val (.int p1), .val (.int p2), .unset, .unset, .unset, .unset, .unset, .unset, .unset, .unset, .unset, .unset, .unset, .unset, .unset, .unset] [(.ref b1)]))
  refine ownVia (fun _ k => XS.dup X50.here hx rfl (hb hby at_47) rfl rfl k) ?_
  show ownFin _ _ _ _ _ (T50.setTop (mkF m 48 #[.val (.int p1), .val (.int p2), .unset, .unset, .unset, .unset, .unset, .unset, .unset, .unset, .unset, .unset, .unset, .unset, .unset, .unset] [(.ref b1), (.ref b1)]))
  refine ownVia (fun _ k => XS.bipush X50.here hx rfl (hb hby at_48) k) ?_
  show ownFin _ _ _ _ _ (T50.setTop (mkF m 50 #[.val (.int p1), .val (.int p2), .unset, .unset, .unset, .unset, .unset, .unset, .unset, .unset, .unset, .unset, .unset, .unset, .unset, .unset] [(.int (7 : Int32)), (.ref b1), (.ref b1)]))
  refine ownVia (fun _ k => X50.ldc2Long hx hown (mvT hZ (hw _ (List.mem_of_getElem? (i := 8) rfl))) (g := (mkF m 50 #[.val (.int p1), .val (.int p2), .unset, .unset, .unset, .unset, .unset, .unset, .unset, .unset, .unset, .unset, .unset, .unset, .unset, .unset] [(.int (7 : Int32)), (.ref b1), (.ref b1)])) rfl (hb hby at_50) _ k) ?_
  show ownFin _ _ _ _ _ (T50.setTop (mkF m 53 #[.val (.int p1), .val (.int p2), .unset, .unset, .unset, .unset, .unset, .unset, .unset, .unset, .unset, .unset, .unset, .unset, .unset, .unset] [(.long (95 : Int64)), (.int (7 : Int32)), (.ref b1), (.ref b1)]))
  refine ownLastore X50 hx hZ e50 A_b1 ⟨by decide, by decide⟩ (7) (by decide) (Nat.le_of_ble_eq_true rfl) N50 ge_b1 (hb hby at_53) ?_
  intro T51 h51 L51 X51 e51 N51 W51 A_b1
  have E_b1 := E_b1.wr W51
  have Z0 := own_szW Z0 W51
  have A_b1 : Arv Z h51 b1 k_b1 .long (38 : Int32) [(.long (-2147483648 : Int64)), (.long (45 : Int64)), (.long (46 : Int64)), (.long (48 : Int64)), (.long (59 : Int64)), (.long (65 : Int64)), (.long (91 : Int64)), (.long (95 : Int64)), (.long (0 : Int64)), (.long (0 : Int64)), (.long (0 : Int64)), (.long (0 : Int64)), (.long (0 : Int64)), (.long (0 : Int64)), (.long (0 : Int64)), (.long (0 : Int64)), (.long (0 : Int64)), (.long (0 : Int64)), (.long (0 : Int64)), (.long (0 : Int64)), (.long (0 : Int64)), (.long (0 : Int64)), (.long (0 : Int64)), (.long (0 : Int64)), (.long (0 : Int64)), (.long (0 : Int64)), (.long (0 : Int64)), (.long (0 : Int64)), (.long (0 : Int64)), (.long (0 : Int64)), (.long (0 : Int64)), (.long (0 : Int64)), (.long (0 : Int64)), (.long (0 : Int64)), (.long (0 : Int64)), (.long (0 : Int64)), (.long (0 : Int64)), (.long (0 : Int64))] (.long (0 : Int64)) := A_b1
  show ownFin _ _ _ _ _ (T51.setTop (mkF m 54 #[.val (.int p1), .val (.int p2), .unset, .unset, .unset, .unset, .unset, .unset, .unset, .unset, .unset, .unset, .unset, .unset, .unset, .unset] [(.ref b1)]))
  refine ownVia (fun _ k => XS.dup X51.here hx rfl (hb hby at_54) rfl rfl k) ?_
  show ownFin _ _ _ _ _ (T51.setTop (mkF m 55 #[.val (.int p1), .val (.int p2), .unset, .unset, .unset, .unset, .unset, .unset, .unset, .unset, .unset, .unset, .unset, .unset, .unset, .unset] [(.ref b1), (.ref b1)]))
  refine ownVia (fun _ k => XS.bipush X51.here hx rfl (hb hby at_55) k) ?_
  show ownFin _ _ _ _ _ (T51.setTop (mkF m 57 #[.val (.int p1), .val (.int p2), .unset, .unset, .unset, .unset, .unset, .unset, .unset, .unset, .unset, .unset, .unset, .unset, .unset, .unset] [(.int (8 : Int32)), (.ref b1), (.ref b1)]))
  refine ownVia (fun _ k => X51.ldc2Long hx hown (mvT hZ (hw _ (List.mem_of_getElem? (i := 9) rfl))) (g := (mkF m 57 #[.val (.int p1), .val (.int p2), .unset, .unset, .unset, .unset, .unset, .unset, .unset, .unset, .unset, .unset, .unset, .unset, .unset, .unset] [(.int (8 : Int32)), (.ref b1), (.ref b1)])) rfl (hb hby at_57) _ k) ?_
  show ownFin _ _ _ _ _ (T51.setTop (mkF m 60 #[.val (.int p1), .val (.int p2), .unset, .unset, .unset, .unset, .unset, .unset, .unset, .unset, .unset, .unset, .unset, .unset, .unset, .unset] [(.long (96 : Int64)), (.int (8 : Int32)), (.ref b1), (.ref b1)]))
  refine ownLastore X51 hx hZ e51 A_b1 ⟨by decide, by decide⟩ (8) (by decide) (Nat.le_of_ble_eq_true rfl) N51 ge_b1 (hb hby at_60) ?_
  intro T52 h52 L52 X52 e52 N52 W52 A_b1
  have E_b1 := E_b1.wr W52
  have Z0 := own_szW Z0 W52
  have A_b1 : Arv Z h52 b1 k_b1 .long (38 : Int32) [(.long (-2147483648 : Int64)), (.long (45 : Int64)), (.long (46 : Int64)), (.long (48 : Int64)), (.long (59 : Int64)), (.long (65 : Int64)), (.long (91 : Int64)), (.long (95 : Int64)), (.long (96 : Int64)), (.long (0 : Int64)), (.long (0 : Int64)), (.long (0 : Int64)), (.long (0 : Int64)), (.long (0 : Int64)), (.long (0 : Int64)), (.long (0 : Int64)), (.long (0 : Int64)), (.long (0 : Int64)), (.long (0 : Int64)), (.long (0 : Int64)), (.long (0 : Int64)), (.long (0 : Int64)), (.long (0 : Int64)), (.long (0 : Int64)), (.long (0 : Int64)), (.long (0 : Int64)), (.long (0 : Int64)), (.long (0 : Int64)), (.long (0 : Int64)), (.long (0 : Int64)), (.long (0 : Int64)), (.long (0 : Int64)), (.long (0 : Int64)), (.long (0 : Int64)), (.long (0 : Int64)), (.long (0 : Int64)), (.long (0 : Int64)), (.long (0 : Int64))] (.long (0 : Int64)) := A_b1
  show ownFin _ _ _ _ _ (T52.setTop (mkF m 61 #[.val (.int p1), .val (.int p2), .unset, .unset, .unset, .unset, .unset, .unset, .unset, .unset, .unset, .unset, .unset, .unset, .unset, .unset] [(.ref b1)]))
  refine ownVia (fun _ k => XS.dup X52.here hx rfl (hb hby at_61) rfl rfl k) ?_
  show ownFin _ _ _ _ _ (T52.setTop (mkF m 62 #[.val (.int p1), .val (.int p2), .unset, .unset, .unset, .unset, .unset, .unset, .unset, .unset, .unset, .unset, .unset, .unset, .unset, .unset] [(.ref b1), (.ref b1)]))
  refine ownVia (fun _ k => XS.bipush X52.here hx rfl (hb hby at_62) k) ?_
  show ownFin _ _ _ _ _ (T52.setTop (mkF m 64 #[.val (.int p1), .val (.int p2), .unset, .unset, .unset, .unset, .unset, .unset, .unset, .unset, .unset, .unset, .unset, .unset, .unset, .unset] [(.int (9 : Int32)), (.ref b1), (.ref b1)]))
  refine ownVia (fun _ k => X52.ldc2Long hx hown (mvT hZ (hw _ (List.mem_of_getElem? (i := 10) rfl))) (g := (mkF m 64 #[.val (.int p1), .val (.int p2), .unset, .unset, .unset, .unset, .unset, .unset, .unset, .unset, .unset, .unset, .unset, .unset, .unset, .unset] [(.int (9 : Int32)), (.ref b1), (.ref b1)])) rfl (hb hby at_64) _ k) ?_
  show ownFin _ _ _ _ _ (T52.setTop (mkF m 67 #[.val (.int p1), .val (.int p2), .unset, .unset, .unset, .unset, .unset, .unset, .unset, .unset, .unset, .unset, .unset, .unset, .unset, .unset] [(.long (97 : Int64)), (.int (9 : Int32)), (.ref b1), (.ref b1)]))
  refine ownLastore X52 hx hZ e52 A_b1 ⟨by decide, by decide⟩ (9) (by decide) (Nat.le_of_ble_eq_true rfl) N52 ge_b1 (hb hby at_67) ?_
  intro T53 h53 L53 X53 e53 N53 W53 A_b1
  have E_b1 := E_b1.wr W53
  have Z0 := own_szW Z0 W53
  have A_b1 : Arv Z h53 b1 k_b1 .long (38 : Int32) [(.long (-2147483648 : Int64)), (.long (45 : Int64)), (.long (46 : Int64)), (.long (48 : Int64)), (.long (59 : Int64)), (.long (65 : Int64)), (.long (91 : Int64)), (.long (95 : Int64)), (.long (96 : Int64)), (.long (97 : Int64)), (.long (0 : Int64)), (.long (0 : Int64)), (.long (0 : Int64)), (.long (0 : Int64)), (.long (0 : Int64)), (.long (0 : Int64)), (.long (0 : Int64)), (.long (0 : Int64)), (.long (0 : Int64)), (.long (0 : Int64)), (.long (0 : Int64)), (.long (0 : Int64)), (.long (0 : Int64)), (.long (0 : Int64)), (.long (0 : Int64)), (.long (0 : Int64)), (.long (0 : Int64)), (.long (0 : Int64)), (.long (0 : Int64)), (.long (0 : Int64)), (.long (0 : Int64)), (.long (0 : Int64)), (.long (0 : Int64)), (.long (0 : Int64)), (.long (0 : Int64)), (.long (0 : Int64)), (.long (0 : Int64)), (.long (0 : Int64))] (.long (0 : Int64)) := A_b1
  show ownFin _ _ _ _ _ (T53.setTop (mkF m 68 #[.val (.int p1), .val (.int p2), .unset, .unset, .unset, .unset, .unset, .unset, .unset, .unset, .unset, .unset, .unset, .unset, .unset, .unset] [(.ref b1)]))
  refine ownVia (fun _ k => XS.dup X53.here hx rfl (hb hby at_68) rfl rfl k) ?_
  show ownFin _ _ _ _ _ (T53.setTop (mkF m 69 #[.val (.int p1), .val (.int p2), .unset, .unset, .unset, .unset, .unset, .unset, .unset, .unset, .unset, .unset, .unset, .unset, .unset, .unset] [(.ref b1), (.ref b1)]))
  refine ownVia (fun _ k => XS.bipush X53.here hx rfl (hb hby at_69) k) ?_
  show ownFin _ _ _ _ _ (T53.setTop (mkF m 71 #[.val (.int p1), .val (.int p2), .unset, .unset, .unset, .unset, .unset, .unset, .unset, .unset, .unset, .unset, .unset, .unset, .unset, .unset] [(.int (10 : Int32)), (.ref b1), (.ref b1)]))
  refine ownVia (fun _ k => X53.ldc2Long hx hown (mvT hZ (hw _ (List.mem_of_getElem? (i := 11) rfl))) (g := (mkF m 71 #[.val (.int p1), .val (.int p2), .unset, .unset, .unset, .unset, .unset, .unset, .unset, .unset, .unset, .unset, .unset, .unset, .unset, .unset] [(.int (10 : Int32)), (.ref b1), (.ref b1)])) rfl (hb hby at_71) _ k) ?_
  show ownFin _ _ _ _ _ (T53.setTop (mkF m 74 #[.val (.int p1), .val (.int p2), .unset, .unset, .unset, .unset, .unset, .unset, .unset, .unset, .unset, .unset, .unset, .unset, .unset, .unset] [(.long (123 : Int64)), (.int (10 : Int32)), (.ref b1), (.ref b1)]))
  refine ownLastore X53 hx hZ e53 A_b1 ⟨by decide, by decide⟩ (10) (by decide) (Nat.le_of_ble_eq_true rfl) N53 ge_b1 (hb hby at_74) ?_
  intro T54 h54 L54 X54 e54 N54 W54 A_b1
  have E_b1 := E_b1.wr W54
  have Z0 := own_szW Z0 W54
  have A_b1 : Arv Z h54 b1 k_b1 .long (38 : Int32) [(.long (-2147483648 : Int64)), (.long (45 : Int64)), (.long (46 : Int64)), (.long (48 : Int64)), (.long (59 : Int64)), (.long (65 : Int64)), (.long (91 : Int64)), (.long (95 : Int64)), (.long (96 : Int64)), (.long (97 : Int64)), (.long (123 : Int64)), (.long (0 : Int64)), (.long (0 : Int64)), (.long (0 : Int64)), (.long (0 : Int64)), (.long (0 : Int64)), (.long (0 : Int64)), (.long (0 : Int64)), (.long (0 : Int64)), (.long (0 : Int64)), (.long (0 : Int64)), (.long (0 : Int64)), (.long (0 : Int64)), (.long (0 : Int64)), (.long (0 : Int64)), (.long (0 : Int64)), (.long (0 : Int64)), (.long (0 : Int64)), (.long (0 : Int64)), (.long (0 : Int64)), (.long (0 : Int64)), (.long (0 : Int64)), (.long (0 : Int64)), (.long (0 : Int64)), (.long (0 : Int64)), (.long (0 : Int64)), (.long (0 : Int64)), (.long (0 : Int64))] (.long (0 : Int64)) := A_b1
  show ownFin _ _ _ _ _ (T54.setTop (mkF m 75 #[.val (.int p1), .val (.int p2), .unset, .unset, .unset, .unset, .unset, .unset, .unset, .unset, .unset, .unset, .unset, .unset, .unset, .unset] [(.ref b1)]))
  refine ownVia (fun _ k => XS.dup X54.here hx rfl (hb hby at_75) rfl rfl k) ?_
  show ownFin _ _ _ _ _ (T54.setTop (mkF m 76 #[.val (.int p1), .val (.int p2), .unset, .unset, .unset, .unset, .unset, .unset, .unset, .unset, .unset, .unset, .unset, .unset, .unset, .unset] [(.ref b1), (.ref b1)]))
  refine ownVia (fun _ k => XS.bipush X54.here hx rfl (hb hby at_76) k) ?_
  show ownFin _ _ _ _ _ (T54.setTop (mkF m 78 #[.val (.int p1), .val (.int p2), .unset, .unset, .unset, .unset, .unset, .unset, .unset, .unset, .unset, .unset, .unset, .unset, .unset, .unset] [(.int (11 : Int32)), (.ref b1), (.ref b1)]))
  refine ownVia (fun _ k => X54.ldc2Long hx hown (mvT hZ (hw _ (List.mem_of_getElem? (i := 12) rfl))) (g := (mkF m 78 #[.val (.int p1), .val (.int p2), .unset, .unset, .unset, .unset, .unset, .unset, .unset, .unset, .unset, .unset, .unset, .unset, .unset, .unset] [(.int (11 : Int32)), (.ref b1), (.ref b1)])) rfl (hb hby at_78) _ k) ?_
  show ownFin _ _ _ _ _ (T54.setTop (mkF m 81 #[.val (.int p1), .val (.int p2), .unset, .unset, .unset, .unset, .unset, .unset, .unset, .unset, .unset, .unset, .unset, .unset, .unset, .unset] [(.long (183 : Int64)), (.int (11 : Int32)), (.ref b1), (.ref b1)]))
  refine ownLastore X54 hx hZ e54 A_b1 ⟨by decide, by decide⟩ (11) (by decide) (Nat.le_of_ble_eq_true rfl) N54 ge_b1 (hb hby at_81) ?_
  intro T55 h55 L55 X55 e55 N55 W55 A_b1
  have E_b1 := E_b1.wr W55
  have Z0 := own_szW Z0 W55
  have A_b1 : Arv Z h55 b1 k_b1 .long (38 : Int32) [(.long (-2147483648 : Int64)), (.long (45 : Int64)), (.long (46 : Int64)), (.long (48 : Int64)), (.long (59 : Int64)), (.long (65 : Int64)), (.long (91 : Int64)), (.long (95 : Int64)), (.long (96 : Int64)), (.long (97 : Int64)), (.long (123 : Int64)), (.long (183 : Int64)), (.long (0 : Int64)), (.long (0 : Int64)), (.long (0 : Int64)), (.long (0 : Int64)), (.long (0 : Int64)), (.long (0 : Int64)), (.long (0 : Int64)), (.long (0 : Int64)), (.long (0 : Int64)), (.long (0 : Int64)), (.long (0 : Int64)), (.long (0 : Int64)), (.long (0 : Int64)), (.long (0 : Int64)), (.long (0 : Int64)), (.long (0 : Int64)), (.long (0 : Int64)), (.long (0 : Int64)), (.long (0 : Int64)), (.long (0 : Int64)), (.long (0 : Int64)), (.long (0 : Int64)), (.long (0 : Int64)), (.long (0 : Int64)), (.long (0 : Int64)), (.long (0 : Int64))] (.long (0 : Int64)) := A_b1
  show ownFin _ _ _ _ _ (T55.setTop (mkF m 82 #[.val (.int p1), .val (.int p2), .unset, .unset, .unset, .unset, .unset, .unset, .unset, .unset, .unset, .unset, .unset, .unset, .unset, .unset] [(.ref b1)]))
  refine ownVia (fun _ k => XS.dup X55.here hx rfl (hb hby at_82) rfl rfl k) ?_
  show ownFin _ _ _ _ _ (T55.setTop (mkF m 83 #[.val (.int p1), .val (.int p2), .unset, .unset, .unset, .unset, .unset, .unset, .unset, .unset, .unset, .unset, .unset, .unset, .unset, .unset] [(.ref b1), (.ref b1)]))
  refine ownVia (fun _ k => XS.bipush X55.here hx rfl (hb hby at_83) k) ?_
  show ownFin _ _ _ _ _ (T55.setTop (mkF m 85 #[.val (.int p1), .val (.int p2), .unset, .unset, .unset, .unset, .unset, .unset, .unset, .unset, .unset, .unset, .unset, .unset, .unset, .unset] [(.int (12 : Int32)), (.ref b1), (.ref b1)]))
  refine ownVia (fun _ k => X55.ldc2Long hx hown (mvT hZ (hw _ (List.mem_of_getElem? (i := 13) rfl))) (g := (mkF m 85 #[.val (.int p1), .val (.int p2), .unset, .unset, .unset, .unset, .unset, .unset, .unset, .unset, .unset, .unset, .unset, .unset, .unset, .unset] [(.int (12 : Int32)), (.ref b1), (.ref b1)])) rfl (hb hby at_85) _ k) ?_
  show ownFin _ _ _ _ _ (T55.setTop (mkF m 88 #[.val (.int p1), .val (.int p2), .unset, .unset, .unset, .unset, .unset, .unset, .unset, .unset, .unset, .unset, .unset, .unset, .unset, .unset] [(.long (184 : Int64)), (.int (12 : Int32)), (.ref b1), (.ref b1)]))
  refine ownLastore X55 hx hZ e55 A_b1 ⟨by decide, by decide⟩ (12) (by decide) (Nat.le_of_ble_eq_true rfl) N55 ge_b1 (hb hby at_88) ?_
  intro T56 h56 L56 X56 e56 N56 W56 A_b1
  have E_b1 := E_b1.wr W56
  have Z0 := own_szW Z0 W56
  have A_b1 : Arv Z h56 b1 k_b1 .long (38 : Int32) [(.long (-2147483648 : Int64)), (.long (45 : Int64)), (.long (46 : Int64)), (.long (48 : Int64)), (.long (59 : Int64)), (.long (65 : Int64)), (.long (91 : Int64)), (.long (95 : Int64)), (.long (96 : Int64)), (.long (97 : Int64)), (.long (123 : Int64)), (.long (183 : Int64)), (.long (184 : Int64)), (.long (0 : Int64)), (.long (0 : Int64)), (.long (0 : Int64)), (.long (0 : Int64)), (.long (0 : Int64)), (.long (0 : Int64)), (.long (0 : Int64)), (.long (0 : Int64)), (.long (0 : Int64)), (.long (0 : Int64)), (.long (0 : Int64)), (.long (0 : Int64)), (.long (0 : Int64)), (.long (0 : Int64)), (.long (0 : Int64)), (.long (0 : Int64)), (.long (0 : Int64)), (.long (0 : Int64)), (.long (0 : Int64)), (.long (0 : Int64)), (.long (0 : Int64)), (.long (0 : Int64)), (.long (0 : Int64)), (.long (0 : Int64)), (.long (0 : Int64))] (.long (0 : Int64)) := A_b1
  show ownFin _ _ _ _ _ (T56.setTop (mkF m 89 #[.val (.int p1), .val (.int p2), .unset, .unset, .unset, .unset, .unset, .unset, .unset, .unset, .unset, .unset, .unset, .unset, .unset, .unset] [(.ref b1)]))
  refine ownVia (fun _ k => XS.dup X56.here hx rfl (hb hby at_89) rfl rfl k) ?_
  show ownFin _ _ _ _ _ (T56.setTop (mkF m 90 #[.val (.int p1), .val (.int p2), .unset, .unset, .unset, .unset, .unset, .unset, .unset, .unset, .unset, .unset, .unset, .unset, .unset, .unset] [(.ref b1), (.ref b1)]))
  refine ownVia (fun _ k => XS.bipush X56.here hx rfl (hb hby at_90) k) ?_
  show ownFin _ _ _ _ _ (T56.setTop (mkF m 92 #[.val (.int p1), .val (.int p2), .unset, .unset, .unset, .unset, .unset, .unset, .unset, .unset, .unset, .unset, .unset, .unset, .unset, .unset] [(.int (13 : Int32)), (.ref b1), (.ref b1)]))
  refine ownVia (fun _ k => X56.ldc2Long hx hown (mvT hZ (hw _ (List.mem_of_getElem? (i := 14) rfl))) (g := (mkF m 92 #[.val (.int p1), .val (.int p2), .unset, .unset, .unset, .unset, .unset, .unset, .unset, .unset, .unset, .unset, .unset, .unset, .unset, .unset] [(.int (13 : Int32)), (.ref b1), (.ref b1)])) rfl (hb hby at_92) _ k) ?_
  show ownFin _ _ _ _ _ (T56.setTop (mkF m 95 #[.val (.int p1), .val (.int p2), .unset, .unset, .unset, .unset, .unset, .unset, .unset, .unset, .unset, .unset, .unset, .unset, .unset, .unset] [(.long (192 : Int64)), (.int (13 : Int32)), (.ref b1), (.ref b1)]))
  refine ownLastore X56 hx hZ e56 A_b1 ⟨by decide, by decide⟩ (13) (by decide) (Nat.le_of_ble_eq_true rfl) N56 ge_b1 (hb hby at_95) ?_
  intro T57 h57 L57 X57 e57 N57 W57 A_b1
  have E_b1 := E_b1.wr W57
  have Z0 := own_szW Z0 W57
  have A_b1 : Arv Z h57 b1 k_b1 .long (38 : Int32) [(.long (-2147483648 : Int64)), (.long (45 : Int64)), (.long (46 : Int64)), (.long (48 : Int64)), (.long (59 : Int64)), (.long (65 : Int64)), (.long (91 : Int64)), (.long (95 : Int64)), (.long (96 : Int64)), (.long (97 : Int64)), (.long (123 : Int64)), (.long (183 : Int64)), (.long (184 : Int64)), (.long (192 : Int64)), (.long (0 : Int64)), (.long (0 : Int64)), (.long (0 : Int64)), (.long (0 : Int64)), (.long (0 : Int64)), (.long (0 : Int64)), (.long (0 : Int64)), (.long (0 : Int64)), (.long (0 : Int64)), (.long (0 : Int64)), (.long (0 : Int64)), (.long (0 : Int64)), (.long (0 : Int64)), (.long (0 : Int64)), (.long (0 : Int64)), (.long (0 : Int64)), (.long (0 : Int64)), (.long (0 : Int64)), (.long (0 : Int64)), (.long (0 : Int64)), (.long (0 : Int64)), (.long (0 : Int64)), (.long (0 : Int64)), (.long (0 : Int64))] (.long (0 : Int64)) := A_b1
  show ownFin _ _ _ _ _ (T57.setTop (mkF m 96 #[.val (.int p1), .val (.int p2), .unset, .unset, .unset, .unset, .unset, .unset, .unset, .unset, .unset, .unset, .unset, .unset, .unset, .unset] [(.ref b1)]))
  refine ownVia (fun _ k => XS.dup X57.here hx rfl (hb hby at_96) rfl rfl k) ?_
  show ownFin _ _ _ _ _ (T57.setTop (mkF m 97 #[.val (.int p1), .val (.int p2), .unset, .unset, .unset, .unset, .unset, .unset, .unset, .unset, .unset, .unset, .unset, .unset, .unset, .unset] [(.ref b1), (.ref b1)]))
  refine ownVia (fun _ k => XS.bipush X57.here hx rfl (hb hby at_97) k) ?_
  show ownFin _ _ _ _ _ (T57.setTop (mkF m 99 #[.val (.int p1), .val (.int p2), .unset, .unset, .unset, .unset, .unset, .unset, .unset, .unset, .unset, .unset, .unset, .unset, .unset, .unset] [(.int (14 : Int32)), (.ref b1), (.ref b1)]))
  refine ownVia (fun _ k => X57.ldc2Long hx hown (mvT hZ (hw _ (List.mem_of_getElem? (i := 15) rfl))) (g := (mkF m 99 #[.val (.int p1), .val (.int p2), .unset, .unset, .unset, .unset, .unset, .unset, .unset, .unset, .unset, .unset, .unset, .unset, .unset, .unset] [(.int (14 : Int32)), (.ref b1), (.ref b1)])) rfl (hb hby at_99) _ k) ?_
  show ownFin _ _ _ _ _ (T57.setTop (mkF m 102 #[.val (.int p1), .val (.int p2), .unset, .unset, .unset, .unset, .unset, .unset, .unset, .unset, .unset, .unset, .unset, .unset, .unset, .unset] [(.long (215 : Int64)), (.int (14 : Int32)), (.ref b1), (.ref b1)]))
  refine ownLastore X57 hx hZ e57 A_b1 ⟨by decide, by decide⟩ (14) (by decide) (Nat.le_of_ble_eq_true rfl) N57 ge_b1 (hb hby at_102) ?_
  intro T58 h58 L58 X58 e58 N58 W58 A_b1
  have E_b1 := E_b1.wr W58
  have Z0 := own_szW Z0 W58
  have A_b1 : Arv Z h58 b1 k_b1 .long (38 : Int32) [(.long (-2147483648 : Int64)), (.long (45 : Int64)), (.long (46 : Int64)), (.long (48 : Int64)), (.long (59 : Int64)), (.long (65 : Int64)), (.long (91 : Int64)), (.long (95 : Int64)), (.long (96 : Int64)), (.long (97 : Int64)), (.long (123 : Int64)), (.long (183 : Int64)), (.long (184 : Int64)), (.long (192 : Int64)), (.long (215 : Int64)), (.long (0 : Int64)), (.long (0 : Int64)), (.long (0 : Int64)), (.long (0 : Int64)), (.long (0 : Int64)), (.long (0 : Int64)), (.long (0 : Int64)), (.long (0 : Int64)), (.long (0 : Int64)), (.long (0 : Int64)), (.long (0 : Int64)), (.long (0 : Int64)), (.long (0 : Int64)), (.long (0 : Int64)), (.long (0 : Int64)), (.long (0 : Int64)), (.long (0 : Int64)), (.long (0 : Int64)), (.long (0 : Int64)), (.long (0 : Int64)), (.long (0 : Int64)), (.long (0 : Int64)), (.long (0 : Int64))] (.long (0 : Int64)) := A_b1
  show ownFin _ _ _ _ _ (T58.setTop (mkF m 103 #[.val (.int p1), .val (.int p2), .unset, .unset, .unset, .unset, .unset, .unset, .unset, .unset, .unset, .unset, .unset, .unset, .unset, .unset] [(.ref b1)]))
  refine ownVia (fun _ k => XS.dup X58.here hx rfl (hb hby at_103) rfl rfl k) ?_
  show ownFin _ _ _ _ _ (T58.setTop (mkF m 104 #[.val (.int p1), .val (.int p2), .unset, .unset, .unset, .unset, .unset, .unset, .unset, .unset, .unset, .unset, .unset, .unset, .unset, .unset] [(.ref b1), (.ref b1)]))
  refine ownVia (fun _ k => XS.bipush X58.here hx rfl (hb hby at_104) k) ?_
  show ownFin _ _ _ _ _ (T58.setTop (mkF m 106 #[.val (.int p1), .val (.int p2), .unset, .unset, .unset, .unset, .unset, .unset, .unset, .unset, .unset, .unset, .unset, .unset, .unset, .unset] [(.int (15 : Int32)), (.ref b1), (.ref b1)]))
  refine ownVia (fun _ k => X58.ldc2Long hx hown (mvT hZ (hw _ (List.mem_of_getElem? (i := 16) rfl))) (g := (mkF m 106 #[.val (.int p1), .val (.int p2), .unset, .unset, .unset, .unset, .unset, .unset, .unset, .unset, .unset, .unset, .unset, .unset, .unset, .unset] [(.int (15 : Int32)), (.ref b1), (.ref b1)])) rfl (hb hby at_106) _ k) ?_
  show ownFin _ _ _ _ _ (T58.setTop (mkF m 109 #[.val (.int p1), .val (.int p2), .unset, .unset, .unset, .unset, .unset, .unset, .unset, .unset, .unset, .unset, .unset, .unset, .unset, .unset] [(.long (216 : Int64)), (.int (15 : Int32)), (.ref b1), (.ref b1)]))
  refine ownLastore X58 hx hZ e58 A_b1 ⟨by decide, by decide⟩ (15) (by decide) (Nat.le_of_ble_eq_true rfl) N58 ge_b1 (hb hby at_109) ?_
  intro T59 h59 L59 X59 e59 N59 W59 A_b1
  have E_b1 := E_b1.wr W59
  have Z0 := own_szW Z0 W59
  have A_b1 : Arv Z h59 b1 k_b1 .long (38 : Int32) [(.long (-2147483648 : Int64)), (.long (45 : Int64)), (.long (46 : Int64)), (.long (48 : Int64)), (.long (59 : Int64)), (.long (65 : Int64)), (.long (91 : Int64)), (.long (95 : Int64)), (.long (96 : Int64)), (.long (97 : Int64)), (.long (123 : Int64)), (.long (183 : Int64)), (.long (184 : Int64)), (.long (192 : Int64)), (.long (215 : Int64)), (.long (216 : Int64)), (.long (0 : Int64)), (.long (0 : Int64)), (.long (0 : Int64)), (.long (0 : Int64)), (.long (0 : Int64)), (.long (0 : Int64)), (.long (0 : Int64)), (.long (0 : Int64)), (.long (0 : Int64)), (.long (0 : Int64)), (.long (0 : Int64)), (.long (0 : Int64)), (.long (0 : Int64)), (.long (0 : Int64)), (.long (0 : Int64)), (.long (0 : Int64)), (.long (0 : Int64)), (.long (0 : Int64)), (.long (0 : Int64)), (.long (0 : Int64)), (.long (0 : Int64)), (.long (0 : Int64))] (.long (0 : Int64)) := A_b1
  show ownFin _ _ _ _ _ (T59.setTop (mkF m 110 #[.val (.int p1), .val (.int p2), .unset, .unset, .unset, .unset, .unset, .unset, .unset, .unset, .unset, .unset, .unset, .unset, .unset, .unset] [(.ref b1)]))
  refine ownVia (fun _ k => XS.dup X59.here hx rfl (hb hby at_110) rfl rfl k) ?_
  show ownFin _ _ _ _ _ (T59.setTop (mkF m 111 #[.val (.int p1), .val (.int p2), .unset, .unset, .unset, .unset, .unset, .unset, .unset, .unset, .unset, .unset, .unset, .unset, .unset, .unset] [(.ref b1), (.ref b1)]))
  refine ownVia (fun _ k => XS.bipush X59.here hx rfl (hb hby at_111) k) ?_
  show ownFin _ _ _ _ _ (T59.setTop (mkF m 113 #[.val (.int p1), .val (.int p2), .unset, .unset, .unset, .unset, .unset, .unset, .unset, .unset, .unset, .unset, .unset, .unset, .unset, .unset] [(.int (16 : Int32)), (.ref b1), (.ref b1)]))
  refine ownVia (fun _ k => X59.ldc2Long hx hown (mvT hZ (hw _ (List.mem_of_getElem? (i := 17) rfl))) (g := (mkF m 113 #[.val (.int p1), .val (.int p2), .unset, .unset, .unset, .unset, .unset, .unset, .unset, .unset, .unset, .unset, .unset, .unset, .unset, .unset] [(.int (16 : Int32)), (.ref b1), (.ref b1)])) rfl (hb hby at_113) _ k) ?_
  show ownFin _ _ _ _ _ (T59.setTop (mkF m 116 #[.val (.int p1), .val (.int p2), .unset, .unset, .unset, .unset, .unset, .unset, .unset, .unset, .unset, .unset, .unset, .unset, .unset, .unset] [(.long (247 : Int64)), (.int (16 : Int32)), (.ref b1), (.ref b1)]))
  refine ownLastore X59 hx hZ e59 A_b1 ⟨by decide, by decide⟩ (16) (by decide) (Nat.le_of_ble_eq_true rfl) N59 ge_b1 (hb hby at_116) ?_
  intro T60 h60 L60 X60 e60 N60 W60 A_b1
  have E_b1 := E_b1.wr W60
  have Z0 := own_szW Z0 W60
  have A_b1 : Arv Z h60 b1 k_b1 .long (38 : Int32) [(.long (-2147483648 : Int64)), (.long (45 : Int64)), (.long (46 : Int64)), (.long (48 : Int64)), (.long (59 : Int64)), (.long (65 : Int64)), (.long (91 : Int64)), (.long (95 : Int64)), (.long (96 : Int64)), (.long (97 : Int64)), (.long (123 : Int64)), (.long (183 : Int64)), (.long (184 : Int64)), (.long (192 : Int64)), (.long (215 : Int64)), (.long (216 : Int64)), (.long (247 : Int64)), (.long (0 : Int64)), (.long (0 : Int64)), (.long (0 : Int64)), (.long (0 : Int64)), (.long (0 : Int64)), (.long (0 : Int64)), (.long (0 : Int64)), (.long (0 : Int64)), (.long (0 : Int64)), (.long (0 : Int64)), (.long (0 : Int64)), (.long (0 : Int64)), (.long (0 : Int64)), (.long (0 : Int64)), (.long (0 : Int64)), (.long (0 : Int64)), (.long (0 : Int64)), (.long (0 : Int64)), (.long (0 : Int64)), (.long (0 : Int64)), (.long (0 : Int64))] (.long (0 : Int64)) := A_b1
  show ownFin _ _ _ _ _ (T60.setTop (mkF m 117 #[.val (.int p1), .val (.int p2), .unset, .unset, .unset, .unset, .unset, .unset, .unset, .unset, .unset, .unset, .unset, .unset, .unset, .unset] [(.ref b1)]))
  refine ownVia (fun _ k => XS.dup X60.here hx rfl (hb hby at_117) rfl rfl k) ?_
  show ownFin _ _ _ _ _ (T60.setTop (mkF m 118 #[.val (.int p1), .val (.int p2), .unset, .unset, .unset, .unset, .unset, .unset, .unset, .unset, .unset, .unset, .unset, .unset, .unset, .unset] [(.ref b1), (.ref b1)]))
  refine ownVia (fun _ k => XS.bipush X60.here hx rfl (hb hby at_118) k) ?_
  show ownFin _ _ _ _ _ (T60.setTop (mkF m 120 #[.val (.int p1), .val (.int p2), .unset, .unset, .unset, .unset, .unset, .unset, .unset, .unset, .unset, .unset, .unset, .unset, .unset, .unset] [(.int (17 : Int32)), (.ref b1), (.ref b1)]))
  refine ownVia (fun _ k => X60.ldc2Long hx hown (mvT hZ (hw _ (List.mem_of_getElem? (i := 18) rfl))) (g := (mkF m 120 #[.val (.int p1), .val (.int p2), .unset, .unset, .unset, .unset, .unset, .unset, .unset, .unset, .unset, .unset, .unset, .unset, .unset, .unset] [(.int (17 : Int32)), (.ref b1), (.ref b1)])) rfl (hb hby at_120) _ k) ?_
  show ownFin _ _ _ _ _ (T60.setTop (mkF m 123 #[.val (.int p1), .val (.int p2), .unset, .unset, .unset, .unset, .unset, .unset, .unset, .unset, .unset, .unset, .unset, .unset, .unset, .unset] [(.long (248 : Int64)), (.int (17 : Int32)), (.ref b1), (.ref b1)]))
  refine ownLastore X60 hx hZ e60 A_b1 ⟨by decide, by decide⟩ (17) (by decide) (Nat.le_of_ble_eq_true rfl) N60 ge_b1 (hb hby at_123) ?_
  intro T61 h61 L61 X61 e61 N61 W61 A_b1
  have E_b1 := E_b1.wr W61
  have Z0 := own_szW Z0 W61
  have A_b1 : Arv Z h61 b1 k_b1 .long (38 : Int32) [(.long (-2147483648 : Int64)), (.long (45 : Int64)), (.long (46 : Int64)), (.long (48 : Int64)), (.long (59 : Int64)), (.long (65 : Int64)), (.long (91 : Int64)), (.long (95 : Int64)), (.long (96 : Int64)), (.long (97 : Int64)), (.long (123 : Int64)), (.long (183 : Int64)), (.long (184 : Int64)), (.long (192 : Int64)), (.long (215 : Int64)), (.long (216 : Int64)), (.long (247 : Int64)), (.long (248 : Int64)), (.long (0 : Int64)), (.long (0 : Int64)), (.long (0 : Int64)), (.long (0 : Int64)), (.long (0 : Int64)), (.long (0 : Int64)), (.long (0 : Int64)), (.long (0 : Int64)), (.long (0 : Int64)), (.long (0 : Int64)), (.long (0 : Int64)), (.long (0 : Int64)), (.long (0 : Int64)), (.long (0 : Int64)), (.long (0 : Int64)), (.long (0 : Int64)), (.long (0 : Int64)), (.long (0 : Int64)), (.long (0 : Int64)), (.long (0 : Int64))] (.long (0 : Int64)) := A_b1
  show ownFin _ _ _ _ _ (T61.setTop (mkF m 124 #[.val (.int p1), .val (.int p2), .unset, .unset, .unset, .unset, .unset, .unset, .unset, .unset, .unset, .unset, .unset, .unset, .unset, .unset] [(.ref b1)]))
  refine ownVia (fun _ k => XS.dup X61.here hx rfl (hb hby at_124) rfl rfl k) ?_
  show ownFin _ _ _ _ _ (T61.setTop (mkF m 125 #[.val (.int p1), .val (.int p2), .unset, .unset, .unset, .unset, .unset, .unset, .unset, .unset, .unset, .unset, .unset, .unset, .unset, .unset] [(.ref b1), (.ref b1)]))
  refine ownVia (fun _ k => XS.bipush X61.here hx rfl (hb hby at_125) k) ?_
  show ownFin _ _ _ _ _ (T61.setTop (mkF m 127 #[.val (.int p1), .val (.int p2), .unset, .unset, .unset, .unset, .unset, .unset, .unset, .unset, .unset, .unset, .unset, .unset, .unset, .unset] [(.int (18 : Int32)), (.ref b1), (.ref b1)]))
  refine ownVia (fun _ k => X61.ldc2Long hx hown (mvT hZ (hw _ (List.mem_of_getElem? (i := 19) rfl))) (g := (mkF m 127 #[.val (.int p1), .val (.int p2), .unset, .unset, .unset, .unset, .unset, .unset, .unset, .unset, .unset, .unset, .unset, .unset, .unset, .unset] [(.int (18 : Int32)), (.ref b1), (.ref b1)])) rfl (hb hby at_127) _ k) ?_
  show ownFin _ _ _ _ _ (T61.setTop (mkF m 130 #[.val (.int p1), .val (.int p2), .unset, .unset, .unset, .unset, .unset, .unset, .unset, .unset, .unset, .unset, .unset, .unset, .unset, .unset] [(.long (894 : Int64)), (.int (18 : Int32)), (.ref b1), (.ref b1)]))
  refine ownLastore X61 hx hZ e61 A_b1 ⟨by decide, by decide⟩ (18) (by decide) (Nat.le_of_ble_eq_true rfl) N61 ge_b1 (hb hby at_130) ?_
  intro T62 h62 L62 X62 e62 N62 W62 A_b1
  have E_b1 := E_b1.wr W62
  have Z0 := own_szW Z0 W62
  have A_b1 : Arv Z h62 b1 k_b1 .long (38 : Int32) [(.long (-2147483648 : Int64)), (.long (45 : Int64)), (.long (46 : Int64)), (.long (48 : Int64)), (.long (59 : Int64)), (.long (65 : Int64)), (.long (91 : Int64)), (.long (95 : Int64)), (.long (96 : Int64)), (.long (97 : Int64)), (.long (123 : Int64)), (.long (183 : Int64)), (.long (184 : Int64)), (.long (192 : Int64)), (.long (215 : Int64)), (.long (216 : Int64)), (.long (247 : Int64)), (.long (248 : Int64)), (.long (894 : Int64)), (.long (0 : Int64)), (.long (0 : Int64)), (.long (0 : Int64)), (.long (0 : Int64)), (.long (0 : Int64)), (.long (0 : Int64)), (.long (0 : Int64)), (.long (0 : Int64)), (.long (0 : Int64)), (.long (0 : Int64)), (.long (0 : Int64)), (.long (0 : Int64)), (.long (0 : Int64)), (.long (0 : Int64)), (.long (0 : Int64)), (.long (0 : Int64)), (.long (0 : Int64)), (.long (0 : Int64)), (.long (0 : Int64))] (.long (0 : Int64)) := A_b1
  show ownFin _ _ _ _ _ (T62.setTop (mkF m 131 #[.val (.int p1), .val (.int p2), .unset, .unset, .unset, .unset, .unset, .unset, .unset, .unset, .unset, .unset, .unset, .unset, .unset, .unset] [(.ref b1)]))
  refine ownVia (fun _ k => XS.dup X62.here hx rfl (hb hby at_131) rfl rfl k) ?_
  show ownFin _ _ _ _ _ (T62.setTop (mkF m 132 #[.val (.int p1), .val (.int p2), .unset, .unset, .unset, .unset, .unset, .unset, .unset, .unset, .unset, .unset, .unset, .unset, .unset, .unset] [(.ref b1), (.ref b1)]))
  refine ownVia (fun _ k => XS.bipush X62.here hx rfl (hb hby at_132) k) ?_
  show ownFin _ _ _ _ _ (T62.setTop (mkF m 134 #[.val (.int p1), .val (.int p2), .unset, .unset, .unset, .unset, .unset, .unset, .unset, .unset, .unset, .unset, .unset, .unset, .unset, .unset] [(.int (19 : Int32)), (.ref b1), (.ref b1)]))
  refine ownVia (fun _ k => X62.ldc2Long hx hown (mvT hZ (hw _ (List.mem_of_getElem? (i := 20) rfl))) (g := (mkF m 134 #[.val (.int p1), .val (.int p2), .unset, .unset, .unset, .unset, .unset, .unset, .unset, .unset, .unset, .unset, .unset, .unset, .unset, .unset] [(.int (19 : Int32)), (.ref b1), (.ref b1)])) rfl (hb hby at_134) _ k) ?_
  show ownFin _ _ _ _ _ (T62.setTop (mkF m 137 #[.val (.int p1), .val (.int p2), .unset, .unset, .unset, .unset, .unset, .unset, .unset, .unset, .unset, .unset, .unset, .unset, .unset, .unset] [(.long (895 : Int64)), (.int (19 : Int32)), (.ref b1), (.ref b1)]))
  refine ownLastore X62 hx hZ e62 A_b1 ⟨by decide, by decide⟩ (19) (by decide) (Nat.le_of_ble_eq_true rfl) N62 ge_b1 (hb hby at_137) ?_
  intro T63 h63 L63 X63 e63 N63 W63 A_b1
  have E_b1 := E_b1.wr W63
  have Z0 := own_szW Z0 W63
  have A_b1 : Arv Z h63 b1 k_b1 .long (38 : Int32) [(.long (-2147483648 : Int64)), (.long (45 : Int64)), (.long (46 : Int64)), (.long (48 : Int64)), (.long (59 : Int64)), (.long (65 : Int64)), (.long (91 : Int64)), (.long (95 : Int64)), (.long (96 : Int64)), (.long (97 : Int64)), (.long (123 : Int64)), (.long (183 : Int64)), (.long (184 : Int64)), (.long (192 : Int64)), (.long (215 : Int64)), (.long (216 : Int64)), (.long (247 : Int64)), (.long (248 : Int64)), (.long (894 : Int64)), (.long (895 : Int64)), (.long (0 : Int64)), (.long (0 : Int64)), (.long (0 : Int64)), (.long (0 : Int64)), (.long (0 : Int64)), (.long (0 : Int64)), (.long (0 : Int64)), (.long (0 : Int64)), (.long (0 : Int64)), (.long (0 : Int64)), (.long (0 : Int64)), (.long (0 : Int64)), (.long (0 : Int64)), (.long (0 : Int64)), (.long (0 : Int64)), (.long (0 : Int64)), (.long (0 : Int64)), (.long (0 : Int64))] (.long (0 : Int64)) := A_b1
  show ownFin _ _ _ _ _ (T63.setTop (mkF m 138 #[.val (.int p1), .val (.int p2), .unset, .unset, .unset, .unset, .unset, .unset, .unset, .unset, .unset, .unset, .unset, .unset, .unset, .unset] [(.ref b1)]))
  refine ownVia (fun _ k => XS.dup X63.here hx rfl (hb hby at_138) rfl rfl k) ?_
  show ownFin _ _ _ _ _ (T63.setTop (mkF m 139 #[.val (.int p1), .val (.int p2), .unset, .unset, .unset, .unset, .unset, .unset, .unset, .unset, .unset, .unset, .unset, .unset, .unset, .unset] [(.ref b1), (.ref b1)]))
  refine ownVia (fun _ k => XS.bipush X63.here hx rfl (hb hby at_139) k) ?_
  show ownFin _ _ _ _ _ (T63.setTop (mkF m 141 #[.val (.int p1), .val (.int p2), .unset, .unset, .unset, .unset, .unset, .unset, .unset, .unset, .unset, .unset, .unset, .unset, .unset, .unset] [(.int (20 : Int32)), (.ref b1), (.ref b1)]))
  refine ownVia (fun _ k => X63.ldc2Long hx hown (mvT hZ (hw _ (List.mem_of_getElem? (i := 21) rfl))) (g := (mkF m 141 #[.val (.int p1), .val (.int p2), .unset, .unset, .unset, .unset, .unset, .unset, .unset, .unset, .unset, .unset, .unset, .unset, .unset, .unset] [(.int (20 : Int32)), (.ref b1), (.ref b1)])) rfl (hb hby at_141) _ k) ?_
  show ownFin _ _ _ _ _ (T63.setTop (mkF m 144 #[.val (.int p1), .val (.int p2), .unset, .unset, .unset, .unset, .unset, .unset, .unset, .unset, .unset, .unset, .unset, .unset, .unset, .unset] [(.long (8192 : Int64)), (.int (20 : Int32)), (.ref b1), (.ref b1)]))
  refine ownLastore X63 hx hZ e63 A_b1 ⟨by decide, by decide⟩ (20) (by decide) (Nat.le_of_ble_eq_true rfl) N63 ge_b1 (hb hby at_144) ?_
  intro T64 h64 L64 X64 e64 N64 W64 A_b1
  have E_b1 := E_b1.wr W64
  have Z0 := own_szW Z0 W64
  have A_b1 : Arv Z h64 b1 k_b1 .long (38 : Int32) [(.long (-2147483648 : Int64)), (.long (45 : Int64)), (.long (46 : Int64)), (.long (48 : Int64)), (.long (59 : Int64)), (.long (65 : Int64)), (.long (91 : Int64)), (.long (95 : Int64)), (.long (96 : Int64)), (.long (97 : Int64)), (.long (123 : Int64)), (.long (183 : Int64)), (.long (184 : Int64)), (.long (192 : Int64)), (.long (215 : Int64)), (.long (216 : Int64)), (.long (247 : Int64)), (.long (248 : Int64)), (.long (894 : Int64)), (.long (895 : Int64)), (.long (8192 : Int64)), (.long (0 : Int64)), (.long (0 : Int64)), (.long (0 : Int64)), (.long (0 : Int64)), (.long (0 : Int64)), (.long (0 : Int64)), (.long (0 : Int64)), (.long (0 : Int64)), (.long (0 : Int64)), (.long (0 : Int64)), (.long (0 : Int64)), (.long (0 : Int64)), (.long (0 : Int64)), (.long (0 : Int64)), (.long (0 : Int64)), (.long (0 : Int64)), (.long (0 : Int64))] (.long (0 : Int64)) := A_b1
  show ownFin _ _ _ _ _ (T64.setTop (mkF m 145 #[.val (.int p1), .val (.int p2), .unset, .unset, .unset, .unset, .unset, .unset, .unset, .unset, .unset, .unset, .unset, .unset, .unset, .unset] [(.ref b1)]))
  refine ownVia (fun _ k => XS.dup X64.here hx rfl (hb hby at_145) rfl rfl k) ?_
  show ownFin _ _ _ _ _ (T64.setTop (mkF m 146 #[.val (.int p1), .val (.int p2), .unset, .unset, .unset, .unset, .unset, .unset, .unset, .unset, .unset, .unset, .unset, .unset, .unset, .unset] [(.ref b1), (.ref b1)]))
  refine ownVia (fun _ k => XS.bipush X64.here hx rfl (hb hby at_146) k) ?_
  show ownFin _ _ _ _ _ (T64.setTop (mkF m 148 #[.val (.int p1), .val (.int p2), .unset, .unset, .unset, .unset, .unset, .unset, .unset, .unset, .unset, .unset, .unset, .unset, .unset, .unset] [(.int (21 : Int32)), (.ref b1), (.ref b1)]))
  refine ownVia (fun _ k => X64.ldc2Long hx hown (mvT hZ (hw _ (List.mem_of_getElem? (i := 22) rfl))) (g := (mkF m 148 #[.val (.int p1), .val (.int p2), .unset, .unset, .unset, .unset, .unset, .unset, .unset, .unset, .unset, .unset, .unset, .unset, .unset, .unset] [(.int (21 : Int32)), (.ref b1), (.ref b1)])) rfl (hb hby at_148) _ k) ?_
  show ownFin _ _ _ _ _ (T64.setTop (mkF m 151 #[.val (.int p1), .val (.int p2), .unset, .unset, .unset, .unset, .unset, .unset, .unset, .unset, .unset, .unset, .unset, .unset, .unset, .unset] [(.long (8204 : Int64)), (.int (21 : Int32)), (.ref b1), (.ref b1)]))
  refine ownLastore X64 hx hZ e64 A_b1 ⟨by decide, by decide⟩ (21) (by decide) (Nat.le_of_ble_eq_true rfl) N64 ge_b1 (hb hby at_151) ?_
  intro T65 h65 L65 X65 e65 N65 W65 A_b1
  have E_b1 := E_b1.wr W65
  have Z0 := own_szW Z0 W65
  have A_b1 : Arv Z h65 b1 k_b1 .long (38 : Int32) [(.long (-2147483648 : Int64)), (.long (45 : Int64)), (.long (46 : Int64)), (.long (48 : Int64)), (.long (59 : Int64)), (.long (65 : Int64)), (.long (91 : Int64)), (.long (95 : Int64)), (.long (96 : Int64)), (.long (97 : Int64)), (.long (123 : Int64)), (.long (183 : Int64)), (.long (184 : Int64)), (.long (192 : Int64)), (.long (215 : Int64)), (.long (216 : Int64)), (.long (247 : Int64)), (.long (248 : Int64)), (.long (894 : Int64)), (.long (895 : Int64)), (.long (8192 : Int64)), (.long (8204 : Int64)), (.long (0 : Int64)), (.long (0 : Int64)), (.long (0 : Int64)), (.long (0 : Int64)), (.long (0 : Int64)), (.long (0 : Int64)), (.long (0 : Int64)), (.long (0 : Int64)), (.long (0 : Int64)), (.long (0 : Int64)), (.long (0 : Int64)), (.long (0 : Int64)), (.long (0 : Int64)), (.long (0 : Int64)), (.long (0 : Int64)), (.long (0 : Int64))] (.long (0 : Int64)) := A_b1
  show ownFin _ _ _ _ _ (T65.setTop (mkF m 152 #[.val (.int p1), .val (.int p2), .unset, .unset, .unset, .unset, .unset, .unset, .unset, .unset, .unset, .unset, .unset, .unset, .unset, .unset] [(.ref b1)]))
  refine ownVia (fun _ k => XS.dup X65.here hx rfl (hb hby at_152) rfl rfl k) ?_
  show ownFin _ _ _ _ _ (T65.setTop (mkF m 153 #[.val (.int p1), .val (.int p2), .unset, .unset, .unset, .unset, .unset, .unset, .unset, .unset, .unset, .unset, .unset, .unset, .unset, .unset] [(.ref b1), (.ref b1)]))
  refine ownVia (fun _ k => XS.bipush X65.here hx rfl (hb hby at_153) k) ?_
  show ownFin _ _ _ _ _ (T65.setTop (mkF m 155 #[.val (.int p1), .val (.int p2), .unset, .unset, .unset, .unset, .unset, .unset, .unset, .unset, .unset, .unset, .unset, .unset, .unset, .unset] [(.int (22 : Int32)), (.ref b1), (.ref b1)]))
  refine ownVia (fun _ k => X65.ldc2Long hx hown (mvT hZ (hw _ (List.mem_of_getElem? (i := 23) rfl))) (g := (mkF m 155 #[.val (.int p1), .val (.int p2), .unset, .unset, .unset, .unset, .unset, .unset, .unset, .unset, .unset, .unset, .unset, .unset, .unset, .unset] [(.int (22 : Int32)), (.ref b1), (.ref b1)])) rfl (hb hby at_155) _ k) ?_
  show ownFin _ _ _ _ _ (T65.setTop (mkF m 158 #[.val (.int p1), .val (.int p2), .unset, .unset, .unset, .unset, .unset, .unset, .unset, .unset, .unset, .unset, .unset, .unset, .unset, .unset] [(.long (8206 : Int64)), (.int (22 : Int32)), (.ref b1), (.ref b1)]))
  refine ownLastore X65 hx hZ e65 A_b1 ⟨by decide, by decide⟩ (22) (by decide) (Nat.le_of_ble_eq_true rfl) N65 ge_b1 (hb hby at_158) ?_
  intro T66 h66 L66 X66 e66 N66 W66 A_b1
  have E_b1 := E_b1.wr W66
  have Z0 := own_szW Z0 W66
  have A_b1 : Arv Z h66 b1 k_b1 .long (38 : Int32) [(.long (-2147483648 : Int64)), (.long (45 : Int64)), (.long (46 : Int64)), (.long (48 : Int64)), (.long (59 : Int64)), (.long (65 : Int64)), (.long (91 : Int64)), (.long (95 : Int64)), (.long (96 : Int64)), (.long (97 : Int64)), (.long (123 : Int64)), (.long (183 : Int64)), (.long (184 : Int64)), (.long (192 : Int64)), (.long (215 : Int64)), (.long (216 : Int64)), (.long (247 : Int64)), (.long (248 : Int64)), (.long (894 : Int64)), (.long (895 : Int64)), (.long (8192 : Int64)), (.long (8204 : Int64)), (.long (8206 : Int64)), (.long (0 : Int64)), (.long (0 : Int64)), (.long (0 : Int64)), (.long (0 : Int64)), (.long (0 : Int64)), (.long (0 : Int64)), (.long (0 : Int64)), (.long (0 : Int64)), (.long (0 : Int64)), (.long (0 : Int64)), (.long (0 : Int64)), (.long (0 : Int64)), (.long (0 : Int64)), (.long (0 : Int64)), (.long (0 : Int64))] (.long (0 : Int64)) := A_b1
  show ownFin _ _ _ _ _ (T66.setTop (mkF m 159 #[.val (.int p1), .val (.int p2), .unset, .unset, .unset, .unset, .unset, .unset, .unset, .unset, .unset, .unset, .unset, .unset, .unset, .unset] [(.ref b1)]))
  refine ownVia (fun _ k => XS.dup X66.here hx rfl (hb hby at_159) rfl rfl k) ?_
  show ownFin _ _ _ _ _ (T66.setTop (mkF m 160 #[.val (.int p1), .val (.int p2), .unset, .unset, .unset, .unset, .unset, .unset, .unset, .unset, .unset, .unset, .unset, .unset, .unset, .unset] [(.ref b1), (.ref b1)]))
  refine ownVia (fun _ k => XS.bipush X66.here hx rfl (hb hby at_160) k) ?_
  show ownFin _ _ _ _ _ (T66.setTop (mkF m 162 #[.val (.int p1), .val (.int p2), .unset, .unset, .unset, .unset, .unset, .unset, .unset, .unset, .unset, .unset, .unset, .unset, .unset, .unset] [(.int (23 : Int32)), (.ref b1), (.ref b1)]))
  refine ownVia (fun _ k => X66.ldc2Long hx hown (mvT hZ (hw _ (List.mem_of_getElem? (i := 24) rfl))) (g := (mkF m 162 #[.val (.int p1), .val (.int p2), .unset, .unset, .unset, .unset, .unset, .unset, .unset, .unset, .unset, .unset, .unset, .unset, .unset, .unset] [(.int (23 : Int32)), (.ref b1), (.ref b1)])) rfl (hb hby at_162) _ k) ?_
  show ownFin _ _ _ _ _ (T66.setTop (mkF m 165 #[.val (.int p1), .val (.int p2), .unset, .unset, .unset, .unset, .unset, .unset, .unset, .unset, .unset, .unset, .unset, .unset, .unset, .unset] [(.long (8255 : Int64)), (.int (23 : Int32)), (.ref b1), (.ref b1)]))
  refine ownLastore X66 hx hZ e66 A_b1 ⟨by decide, by decide⟩ (23) (by decide) (Nat.le_of_ble_eq_true rfl) N66 ge_b1 (hb hby at_165) ?_
  intro T67 h67 L67 X67 e67 N67 W67 A_b1
  have E_b1 := E_b1.wr W67
  have Z0 := own_szW Z0 W67
  have A_b1 : Arv Z h67 b1 k_b1 .long (38 : Int32) [(.long (-2147483648 : Int64)), (.long (45 : Int64)), (.long (46 : Int64)), (.long (48 : Int64)), (.long (59 : Int64)), (.long (65 : Int64)), (.long (91 : Int64)), (.long (95 : Int64)), (.long (96 : Int64)), (.long (97 : Int64)), (.long (123 : Int64)), (.long (183 : Int64)), (.long (184 : Int64)), (.long (192 : Int64)), (.long (215 : Int64)), (.long (216 : Int64)), (.long (247 : Int64)), (.long (248 : Int64)), (.long (894 : Int64)), (.long (895 : Int64)), (.long (8192 : Int64)), (.long (8204 : Int64)), (.long (8206 : Int64)), (.long (8255 : Int64)), (.long (0 : Int64)), (.long (0 : Int64)), (.long (0 : Int64)), (.long (0 : Int64)), (.long (0 : Int64)), (.long (0 : Int64)), (.long (0 : Int64)), (.long (0 : Int64)), (.long (0 : Int64)), (.long (0 : Int64)), (.long (0 : Int64)), (.long (0 : Int64)), (.long (0 : Int64)), (.long (0 : Int64))] (.long (0 : Int64)) := A_b1
  show ownFin _ _ _ _ _ (T67.setTop (mkF m 166 #[.val (.int p1), .val (.int p2), .unset, .unset, .unset, .unset, .unset, .unset, .unset, .unset, .unset, .unset, .unset, .unset, .unset, .unset] [(.ref b1)]))
  refine ownVia (fun _ k => XS.dup X67.here hx rfl (hb hby at_166) rfl rfl k) ?_
  show ownFin _ _ _ _ _ (T67.setTop (mkF m 167 #[.val (.int p1), .val (.int p2), .unset, .unset, .unset, .unset, .unset, .unset, .unset, .unset, .unset, .unset, .unset, .unset, .unset, .unset] [(.ref b1), (.ref b1)]))
  refine ownVia (fun _ k => XS.bipush X67.here hx rfl (hb hby at_167) k) ?_
  show ownFin _ _ _ _ _ (T67.setTop (mkF m 169 #[.val (.int p1), .val (.int p2), .unset, .unset, .unset, .unset, .unset, .unset, .unset, .unset, .unset, .unset, .unset, .unset, .unset, .unset] [(.int (24 : Int32)), (.ref b1), (.ref b1)]))
  refine ownVia (fun _ k => X67.ldc2Long hx hown (mvT hZ (hw _ (List.mem_of_getElem? (i := 25) rfl))) (g := (mkF m 169 #[.val (.int p1), .val (.int p2), .unset, .unset, .unset, .unset, .unset, .unset, .unset, .unset, .unset, .unset, .unset, .unset, .unset, .unset] [(.int (24 : Int32)), (.ref b1), (.ref b1)])) rfl (hb hby at_169) _ k) ?_
  show ownFin _ _ _ _ _ (T67.setTop (mkF m 172 #[.val (.int p1), .val (.int p2), .unset, .unset, .unset, .unset, .unset, .unset, .unset, .unset, .unset, .unset, .unset, .unset, .unset, .unset] [(.long (8257 : Int64)), (.int (24 : Int32)), (.ref b1), (.ref b1)]))
  refine ownLastore X67 hx hZ e67 A_b1 ⟨by decide, by decide⟩ (24) (by decide) (Nat.le_of_ble_eq_true rfl) N67 ge_b1 (hb hby at_172) ?_
  intro T68 h68 L68 X68 e68 N68 W68 A_b1
  have E_b1 := E_b1.wr W68
  have Z0 := own_szW Z0 W68
  have A_b1 : Arv Z h68 b1 k_b1 .long (38 : Int32) [(.long (-2147483648 : Int64)), (.long (45 : Int64)), (.long (46 : Int64)), (.long (48 : Int64)), (.long (59 : Int64)), (.long (65 : Int64)), (.long (91 : Int64)), (.long (95 : Int64)), (.long (96 : Int64)), (.long (97 : Int64)), (.long (123 : Int64)), (.long (183 : Int64)), (.long (184 : Int64)), (.long (192 : Int64)), (.long (215 : Int64)), (.long (216 : Int64)), (.long (247 : Int64)), (.long (248 : Int64)), (.long (894 : Int64)), (.long (895 : Int64)), (.long (8192 : Int64)), (.long (8204 : Int64)), (.long (8206 : Int64)), (.long (8255 : Int64)), (.long (8257 : Int64)), (.long (0 : Int64)), (.long (0 : Int64)), (.long (0 : Int64)), (.long (0 : Int64)), (.long (0 : Int64)), (.long (0 : Int64)), (.long (0 : Int64)), (.long (0 : Int64)), (.long (0 : Int64)), (.long (0 : Int64)), (.long (0 : Int64)), (.long (0 : Int64)), (.long (0 : Int64))] (.long (0 : Int64)) := A_b1
  show ownFin _ _ _ _ _ (T68.setTop (mkF m 173 #[.val (.int p1), .val (.int p2), .unset, .unset, .unset, .unset, .unset, .unset, .unset, .unset, .unset, .unset, .unset, .unset, .unset, .unset] [(.ref b1)]))
  refine ownVia (fun _ k => XS.dup X68.here hx rfl (hb hby at_173) rfl rfl k) ?_
  show ownFin _ _ _ _ _ (T68.setTop (mkF m 174 #[.val (.int p1), .val (.int p2), .unset, .unset, .unset, .unset, .unset, .unset, .unset, .unset, .unset, .unset, .unset, .unset, .unset, .unset] [(.ref b1), (.ref b1)]))
  refine ownVia (fun _ k => XS.bipush X68.here hx rfl (hb hby at_174) k) ?_
  show ownFin _ _ _ _ _ (T68.setTop (mkF m 176 #[.val (.int p1), .val (.int p2), .unset, .unset, .unset, .unset, .unset, .unset, .unset, .unset, .unset, .unset, .unset, .unset, .unset, .unset] [(.int (25 : Int32)), (.ref b1), (.ref b1)]))
  refine ownVia (fun _ k => X68.ldc2Long hx hown (mvT hZ (hw _ (List.mem_of_getElem? (i := 26) rfl))) (g := (mkF m 176 #[.val (.int p1), .val (.int p2), .unset, .unset, .unset, .unset, .unset, .unset, .unset, .unset, .unset, .unset, .unset, .unset, .unset, .unset] [(.int (25 : Int32)), (.ref b1), (.ref b1)])) rfl (hb hby at_176) _ k) ?_
  show ownFin _ _ _ _ _ (T68.setTop (mkF m 179 #[.val (.int p1), .val (.int p2), .unset, .unset, .unset, .unset, .unset, .unset, .unset, .unset, .unset, .unset, .unset, .unset, .unset, .unset] [(.long (8304 : Int64)), (.int (25 : Int32)), (.ref b1), (.ref b1)]))
  refine ownLastore X68 hx hZ e68 A_b1 ⟨by decide, by decide⟩ (25) (by decide) (Nat.le_of_ble_eq_true rfl) N68 ge_b1 (hb hby at_179) ?_
  intro T69 h69 L69 X69 e69 N69 W69 A_b1
  have E_b1 := E_b1.wr W69
  have Z0 := own_szW Z0 W69
  have A_b1 : Arv Z h69 b1 k_b1 .long (38 : Int32) [(.long (-2147483648 : Int64)), (.long (45 : Int64)), (.long (46 : Int64)), (.long (48 : Int64)), (.long (59 : Int64)), (.long (65 : Int64)), (.long (91 : Int64)), (.long (95 : Int64)), (.long (96 : Int64)), (.long (97 : Int64)), (.long (123 : Int64)), (.long (183 : Int64)), (.long (184 : Int64)), (.long (192 : Int64)), (.long (215 : Int64)), (.long (216 : Int64)), (.long (247 : Int64)), (.long (248 : Int64)), (.long (894 : Int64)), (.long (895 : Int64)), (.long (8192 : Int64)), (.long (8204 : Int64)), (.long (8206 : Int64)), (.long (8255 : Int64)), (.long (8257 : Int64)), (.long (8304 : Int64)), (.long (0 : Int64)), (.long (0 : Int64)), (.long (0 : Int64)), (.long (0 : Int64)), (.long (0 : Int64)), (.long (0 : Int64)), (.long (0 : Int64)), (.long (0 : Int64)), (.long (0 : Int64)), (.long (0 : Int64)), (.long (0 : Int64)), (.long (0 : Int64))] (.long (0 : Int64)) := A_b1
  show ownFin _ _ _ _ _ (T69.setTop (mkF m 180 #[.val (.int p1), .val (.int p2), .unset, .unset, .unset, .unset, .unset, .unset, .unset, .unset, .unset, .unset, .unset, .unset, .unset, .unset] [(.ref b1)]))
  refine ownVia (fun _ k => XS.dup X69.here hx rfl (hb hby at_180) rfl rfl k) ?_
  show ownFin _ _ _ _ _ (T69.setTop (mkF m 181 #[.val (.int p1), .val (.int p2), .unset, .unset, .unset, .unset, .unset, .unset, .unset, .unset, .unset, .unset, .unset, .unset, .unset, .unset] [(.ref b1), (.ref b1)]))
  refine ownVia (fun _ k => XS.bipush X69.here hx rfl (hb hby at_181) k) ?_
  show ownFin _ _ _ _ _ (T69.setTop (mkF m 183 #[.val (.int p1), .val (.int p2), .unset, .unset, .unset, .unset, .unset, .unset, .unset, .unset, .unset, .unset, .unset, .unset, .unset, .unset] [(.int (26 : Int32)), (.ref b1), (.ref b1)]))
  refine ownVia (fun _ k => X69.ldc2Long hx hown (mvT hZ (hw _ (List.mem_of_getElem? (i := 27) rfl))) (g := (mkF m 183 #[.val (.int p1), .val (.int p2), .unset, .unset, .unset, .unset, .unset, .unset, .unset, .unset, .unset, .unset, .unset, .unset, .unset, .unset] [(.int (26 : Int32)), (.ref b1), (.ref b1)])) rfl (hb hby at_183) _ k) ?_
  show ownFin _ _ _ _ _ (T69.setTop (mkF m 186 #[.val (.int p1), .val (.int p2), .unset, .unset, .unset, .unset, .unset, .unset, .unset, .unset, .unset, .unset, .unset, .unset, .unset, .unset] [(.long (8592 : Int64)), (.int (26 : Int32)), (.ref b1), (.ref b1)]))
  refine ownLastore X69 hx hZ e69 A_b1 ⟨by decide, by decide⟩ (26) (by decide) (Nat.le_of_ble_eq_true rfl) N69 ge_b1 (hb hby at_186) ?_
  intro T70 h70 L70 X70 e70 N70 W70 A_b1
  have E_b1 := E_b1.wr W70
  have Z0 := own_szW Z0 W70
  have A_b1 : Arv Z h70 b1 k_b1 .long (38 : Int32) [(.long (-2147483648 : Int64)), (.long (45 : Int64)), (.long (46 : Int64)), (.long (48 : Int64)), (.long (59 : Int64)), (.long (65 : Int64)), (.long (91 : Int64)), (.long (95 : Int64)), (.long (96 : Int64)), (.long (97 : Int64)), (.long (123 : Int64)), (.long (183 : Int64)), (.long (184 : Int64)), (.long (192 : Int64)), (.long (215 : Int64)), (.long (216 : Int64)), (.long (247 : Int64)), (.long (248 : Int64)), (.long (894 : Int64)), (.long (895 : Int64)), (.long (8192 : Int64)), (.long (8204 : Int64)), (.long (8206 : Int64)), (.long (8255 : Int64)), (.long (8257 : Int64)), (.long (8304 : Int64)), (.long (8592 : Int64)), (.long (0 : Int64)), (.long (0 : Int64)), (.long (0 : Int64)), (.long (0 : Int64)), (.long (0 : Int64)), (.long (0 : Int64)), (.long (0 : Int64)), (.long (0 : Int64)), (.long (0 : Int64)), (.long (0 : Int64)), (.long (0 : Int64))] (.long (0 : Int64)) := A_b1
  show ownFin _ _ _ _ _ (T70.setTop (mkF m 187 #[.val (.int p1), .val (.int p2), .unset, .unset, .unset, .unset, .unset, .unset, .unset, .unset, .unset, .unset, .unset, .unset, .unset, .unset] [(.ref b1)]))
  refine ownVia (fun _ k => XS.dup X70.here hx rfl (hb hby at_187) rfl rfl k) ?_
  show ownFin _ _ _ _ _ (T70.setTop (mkF m 188 #[.val (.int p1), .val (.int p2), .unset, .unset, .unset, .unset, .unset, .unset, .unset, .unset, .unset, .unset, .unset, .unset, .unset, .unset] [(.ref b1), (.ref b1)]))
  refine ownVia (fun _ k => XS.bipush X70.here hx rfl (hb hby at_188) k) ?_
  show ownFin _ _ _ _ _ (T70.setTop (mkF m 190 #[.val (.int p1), .val (.int p2), .unset, .unset, .unset, .unset, .unset, .unset, .unset, .unset, .unset, .unset, .unset, .unset, .unset, .unset] [(.int (27 : Int32)), (.ref b1), (.ref b1)]))
  refine ownVia (fun _ k => X70.ldc2Long hx hown (mvT hZ (hw _ (List.mem_of_getElem? (i := 28) rfl))) (g := (mkF m 190 #[.val (.int p1), .val (.int p2), .unset, .unset, .unset, .unset, .unset, .unset, .unset, .unset, .unset, .unset, .unset, .unset, .unset, .unset] [(.int (27 : Int32)), (.ref b1), (.ref b1)])) rfl (hb hby at_190) _ k) ?_
  show ownFin _ _ _ _ _ (T70.setTop (mkF m 193 #[.val (.int p1), .val (.int p2), .unset, .unset, .unset, .unset, .unset, .unset, .unset, .unset, .unset, .unset, .unset, .unset, .unset, .unset] [(.long (11264 : Int64)), (.int (27 : Int32)), (.ref b1), (.ref b1)]))
  refine ownLastore X70 hx hZ e70 A_b1 ⟨by decide, by decide⟩ (27) (by decide) (Nat.le_of_ble_eq_true rfl) N70 ge_b1 (hb hby at_193) ?_
  intro T71 h71 L71 X71 e71 N71 W71 A_b1
  have E_b1 := E_b1.wr W71
  have Z0 := own_szW Z0 W71
  have A_b1 : Arv Z h71 b1 k_b1 .long (38 : Int32) [(.long (-2147483648 : Int64)), (.long (45 : Int64)), (.long (46 : Int64)), (.long (48 : Int64)), (.long (59 : Int64)), (.long (65 : Int64)), (.long (91 : Int64)), (.long (95 : Int64)), (.long (96 : Int64)), (.long (97 : Int64)), (.long (123 : Int64)), (.long (183 : Int64)), (.long (184 : Int64)), (.long (192 : Int64)), (.long (215 : Int64)), (.long (216 : Int64)), (.long (247 : Int64)), (.long (248 : Int64)), (.long (894 : Int64)), (.long (895 : Int64)), (.long (8192 : Int64)), (.long (8204 : Int64)), (.long (8206 : Int64)), (.long (8255 : Int64)), (.long (8257 : Int64)), (.long (8304 : Int64)), (.long (8592 : Int64)), (.long (11264 : Int64)), (.long (0 : Int64)), (.long (0 : Int64)), (.long (0 : Int64)), (.long (0 : Int64)), (.long (0 : Int64)), (.long (0 : Int64)), (.long (0 : Int64)), (.long (0 : Int64)), (.long (0 : Int64)), (.long (0 : Int64))] (.long (0 : Int64)) := A_b1
  show ownFin _ _ _ _ _ (T71.setTop (mkF m 194 #[.val (.int p1), .val (.int p2), .unset, .unset, .unset, .unset, .unset, .unset, .unset, .unset, .unset, .unset, .unset, .unset, .unset, .unset] [(.ref b1)]))
  refine ownVia (fun _ k => XS.dup X71.here hx rfl (hb hby at_194) rfl rfl k) ?_
  show ownFin _ _ _ _ _ (T71.setTop (mkF m 195 #[.val (.int p1), .val (.int p2), .unset, .unset, .unset, .unset, .unset, .unset, .unset, .unset, .unset, .unset, .unset, .unset, .unset, .unset] [(.ref b1), (.ref b1)]))
  refine ownVia (fun _ k => XS.bipush X71.here hx rfl (hb hby at_195) k) ?_
  show ownFin _ _ _ _ _ (T71.setTop (mkF m 197 #[.val (.int p1), .val (.int p2), .unset, .unset, .unset, .unset, .unset, .unset, .unset, .unset, .unset, .unset, .unset, .unset, .unset, .unset] [(.int (28 : Int32)), (.ref b1), (.ref b1)]))
  refine ownVia (fun _ k => X71.ldc2Long hx hown (mvT hZ (hw _ (List.mem_of_getElem? (i := 29) rfl))) (g := (mkF m 197 #[.val (.int p1), .val (.int p2), .unset, .unset, .unset, .unset, .unset, .unset, .unset, .unset, .unset, .unset, .unset, .unset, .unset, .unset] [(.int (28 : Int32)), (.ref b1), (.ref b1)])) rfl (hb hby at_197) _ k) ?_
  show ownFin _ _ _ _ _ (T71.setTop (mkF m 200 #[.val (.int p1), .val (.int p2), .unset, .unset, .unset, .unset, .unset, .unset, .unset, .unset, .unset, .unset, .unset, .unset, .unset, .unset] [(.long (12272 : Int64)), (.int (28 : Int32)), (.ref b1), (.ref b1)]))
  refine ownLastore X71 hx hZ e71 A_b1 ⟨by decide, by decide⟩ (28) (by decide) (Nat.le_of_ble_eq_true rfl) N71 ge_b1 (hb hby at_200) ?_
  intro T72 h72 L72 X72 e72 N72 W72 A_b1
  have E_b1 := E_b1.wr W72
  have Z0 := own_szW Z0 W72
  have A_b1 : Arv Z h72 b1 k_b1 .long (38 : Int32) [(.long (-2147483648 : Int64)), (.long (45 : Int64)), (.long (46 : Int64)), (.long (48 : Int64)), (.long (59 : Int64)), (.long (65 : Int64)), (.long (91 : Int64)), (.long (95 : Int64)), (.long (96 : Int64)), (.long (97 : Int64)), (.long (123 : Int64)), (.long (183 : Int64)), (.long (184 : Int64)), (.long (192 : Int64)), (.long (215 : Int64)), (.long (216 : Int64)), (.long (247 : Int64)), (.long (248 : Int64)), (.long (894 : Int64)), (.long (895 : Int64)), (.long (8192 : Int64)), (.long (8204 : Int64)), (.long (8206 : Int64)), (.long (8255 : Int64)), (.long (8257 : Int64)), (.long (8304 : Int64)), (.long (8592 : Int64)), (.long (11264 : Int64)), (.long (12272 : Int64)), (.long (0 : Int64)), (.long (0 : Int64)), (.long (0 : Int64)), (.long (0 : Int64)), (.long (0 : Int64)), (.long (0 : Int64)), (.long (0 : Int64)), (.long (0 : Int64)), (.long (0 : Int64))] (.long (0 : Int64)) := A_b1
  show ownFin _ _ _ _ _ (T72.setTop (mkF m 201 #[.val (.int p1), .val (.int p2), .unset, .unset, .unset, .unset, .unset, .unset, .unset, .unset, .unset, .unset, .unset, .unset, .unset, .unset] [(.ref b1)]))
  refine ownVia (fun _ k => XS.dup X72.here hx rfl (hb hby at_201) rfl rfl k) ?_
  show ownFin _ _ _ _ _ (T72.setTop (mkF m 202 #[.val (.int p1), .val (.int p2), .unset, .unset, .unset, .unset, .unset, .unset, .unset, .unset, .unset, .unset, .unset, .unset, .unset, .unset] [(.ref b1), (.ref b1)]))
  refine ownVia (fun _ k => XS.bipush X72.here hx rfl (hb hby at_202) k) ?_
  show ownFin _ _ _ _ _ (T72.setTop (mkF m 204 #[.val (.int p1), .val (.int p2), .unset, .unset, .unset, .unset, .unset, .unset, .unset, .unset, .unset, .unset, .unset, .unset, .unset, .unset] [(.int (29 : Int32)), (.ref b1), (.ref b1)]))
  refine ownVia (fun _ k => X72.ldc2Long hx hown (mvT hZ (hw _ (List.mem_of_getElem? (i := 30) rfl))) (g := (mkF m 204 #[.val (.int p1), .val (.int p2), .unset, .unset, .unset, .unset, .unset, .unset, .unset, .unset, .unset, .unset, .unset, .unset, .unset, .unset] [(.int (29 : Int32)), (.ref b1), (.ref b1)])) rfl (hb hby at_204) _ k) ?_
  show ownFin _ _ _ _ _ (T72.setTop (mkF m 207 #[.val (.int p1), .val (.int p2), .unset, .unset, .unset, .unset, .unset, .unset, .unset, .unset, .unset, .unset, .unset, .unset, .unset, .unset] [(.long (12289 : Int64)), (.int (29 : Int32)), (.ref b1), (.ref b1)]))
  refine ownLastore X72 hx hZ e72 A_b1 ⟨by decide, by decide⟩ (29) (by decide) (Nat.le_of_ble_eq_true rfl) N72 ge_b1 (hb hby at_207) ?_
  intro T73 h73 L73 X73 e73 N73 W73 A_b1
  have E_b1 := E_b1.wr W73
  have Z0 := own_szW Z0 W73
  have A_b1 : Arv Z h73 b1 k_b1 .long (38 : Int32) [(.long (-2147483648 : Int64)), (.long (45 : Int64)), (.long (46 : Int64)), (.long (48 : Int64)), (.long (59 : Int64)), (.long (65 : Int64)), (.long (91 : Int64)), (.long (95 : Int64)), (.long (96 : Int64)), (.long (97 : Int64)), (.long (123 : Int64)), (.long (183 : Int64)), (.long (184 : Int64)), (.long (192 : Int64)), (.long (215 : Int64)), (.long (216 : Int64)), (.long (247 : Int64)), (.long (248 : Int64)), (.long (894 : Int64)), (.long (895 : Int64)), (.long (8192 : Int64)), (.long (8204 : Int64)), (.long (8206 : Int64)), (.long (8255 : Int64)), (.long (8257 : Int64)), (.long (8304 : Int64)), (.long (8592 : Int64)), (.long (11264 : Int64)), (.long (12272 : Int64)), (.long (12289 : Int64)), (.long (0 : Int64)), (.long (0 : Int64)), (.long (0 : Int64)), (.long (0 : Int64)), (.long (0 : Int64)), (.long (0 : Int64)), (.long (0 : Int64)), (.long (0 : Int64))] (.long (0 : Int64)) := A_b1
  show ownFin _ _ _ _ _ (T73.setTop (mkF m 208 #[.val (.int p1), .val (.int p2), .unset, .unset, .unset, .unset, .unset, .unset, .unset, .unset, .unset, .unset, .unset, .unset, .unset, .unset] [(.ref b1)]))
  refine ownVia (fun _ k => XS.dup X73.here hx rfl (hb hby at_208) rfl rfl k) ?_
  show ownFin _ _ _ _ _ (T73.setTop (mkF m 209 #[.val (.int p1), .val (.int p2), .unset, .unset, .unset, .unset, .unset, .unset, .unset, .unset, .unset, .unset, .unset, .unset, .unset, .unset] [(.ref b1), (.ref b1)]))
  refine ownVia (fun _ k => XS.bipush X73.here hx rfl (hb hby at_209) k) ?_
  show ownFin _ _ _ _ _ (T73.setTop (mkF m 211 #[.val (.int p1), .val (.int p2), .unset, .unset, .unset, .unset, .unset, .unset, .unset, .unset, .unset, .unset, .unset, .unset, .unset, .unset] [(.int (30 : Int32)), (.ref b1), (.ref b1)]))
  refine ownVia (fun _ k => X73.ldc2Long hx hown (mvT hZ (hw _ (List.mem_of_getElem? (i := 31) rfl))) (g := (mkF m 211 #[.val (.int p1), .val (.int p2), .unset, .unset, .unset, .unset, .unset, .unset, .unset, .unset, .unset, .unset, .unset, .unset, .unset, .unset] [(.int (30 : Int32)), (.ref b1), (.ref b1)])) rfl (hb hby at_211) _ k) ?_
  show ownFin _ _ _ _ _ (T73.setTop (mkF m 214 #[.val (.int p1), .val (.int p2), .unset, .unset, .unset, .unset, .unset, .unset, .unset, .unset, .unset, .unset, .unset, .unset, .unset, .unset] [(.long (55296 : Int64)), (.int (30 : Int32)), (.ref b1), (.ref b1)]))
  refine ownLastore X73 hx hZ e73 A_b1 ⟨by decide, by decide⟩ (30) (by decide) (Nat.le_of_ble_eq_true rfl) N73 ge_b1 (hb hby at_214) ?_
  intro T74 h74 L74 X74 e74 N74 W74 A_b1
  have E_b1 := E_b1.wr W74
  have Z0 := own_szW Z0 W74
  have A_b1 : Arv Z h74 b1 k_b1 .long (38 : Int32) [(.long (-2147483648 : Int64)), (.long (45 : Int64)), (.long (46 : Int64)), (.long (48 : Int64)), (.long (59 : Int64)), (.long (65 : Int64)), (.long (91 : Int64)), (.long (95 : Int64)), (.long (96 : Int64)), (.long (97 : Int64)), (.long (123 : Int64)), (.long (183 : Int64)), (.long (184 : Int64)), (.long (192 : Int64)), (.long (215 : Int64)), (.long (216 : Int64)), (.long (247 : Int64)), (.long (248 : Int64)), (.long (894 : Int64)), (.long (895 : Int64)), (.long (8192 : Int64)), (.long (8204 : Int64)), (.long (8206 : Int64)), (.long (8255 : Int64)), (.long (8257 : Int64)), (.long (8304 : Int64)), (.long (8592 : Int64)), (.long (11264 : Int64)), (.long (12272 : Int64)), (.long (12289 : Int64)), (.long (55296 : Int64)), (.long (0 : Int64)), (.long (0 : Int64)), (.long (0 : Int64)), (.long (0 : Int64)), (.long (0 : Int64)), (.long (0 : Int64)), (.long (0 : Int64))] (.long (0 : Int64)) := A_b1
  show ownFin _ _ _ _ _ (T74.setTop (mkF m 215 #[.val (.int p1), .val (.int p2), .unset, .unset, .unset, .unset, .unset, .unset, .unset, .unset, .unset, .unset, .unset, .unset, .unset, .unset] [(.ref b1)]))
  refine ownVia (fun _ k => XS.dup X74.here hx rfl (hb hby at_215) rfl rfl k) ?_
  show ownFin _ _ _ _ _ (T74.setTop (mkF m 216 #[.val (.int p1), .val (.int p2), .unset, .unset, .unset, .unset, .unset, .unset, .unset, .unset, .unset, .unset, .unset, .unset, .unset, .unset] [(.ref b1), (.ref b1)]))
  refine ownVia (fun _ k => XS.bipush X74.here hx rfl (hb hby at_216) k) ?_
  show ownFin _ _ _ _ _ (T74.setTop (mkF m 218 #[.val (.int p1), .val (.int p2), .unset, .unset, .unset, .unset, .unset, .unset, .unset, .unset, .unset, .unset, .unset, .unset, .unset, .unset] [(.int (31 : Int32)), (.ref b1), (.ref b1)]))
  refine ownVia (fun _ k => X74.ldc2Long hx hown (mvT hZ (hw _ (List.mem_of_getElem? (i := 32) rfl))) (g := (mkF m 218 #[.val (.int p1), .val (.int p2), .unset, .unset, .unset, .unset, .unset, .unset, .unset, .unset, .unset, .unset, .unset, .unset, .unset, .unset] [(.int (31 : Int32)), (.ref b1), (.ref b1)])) rfl (hb hby at_218) _ k) ?_
  show ownFin _ _ _ _ _ (T74.setTop (mkF m 221 #[.val (.int p1), .val (.int p2), .unset, .unset, .unset, .unset, .unset, .unset, .unset, .unset, .unset, .unset, .unset, .unset, .unset, .unset] [(.long (63744 : Int64)), (.int (31 : Int32)), (.ref b1), (.ref b1)]))
  refine ownLastore X74 hx hZ e74 A_b1 ⟨by decide, by decide⟩ (31) (by decide) (Nat.le_of_ble_eq_true rfl) N74 ge_b1 (hb hby at_221) ?_
  intro T75 h75 L75 X75 e75 N75 W75 A_b1
  have E_b1 := E_b1.wr W75
  have Z0 := own_szW Z0 W75
  have A_b1 : Arv Z h75 b1 k_b1 .long (38 : Int32) [(.long (-2147483648 : Int64)), (.long (45 : Int64)), (.long (46 : Int64)), (.long (48 : Int64)), (.long (59 : Int64)), (.long (65 : Int64)), (.long (91 : Int64)), (.long (95 : Int64)), (.long (96 : Int64)), (.long (97 : Int64)), (.long (123 : Int64)), (.long (183 : Int64)), (.long (184 : Int64)), (.long (192 : Int64)), (.long (215 : Int64)), (.long (216 : Int64)), (.long (247 : Int64)), (.long (248 : Int64)), (.long (894 : Int64)), (.long (895 : Int64)), (.long (8192 : Int64)), (.long (8204 : Int64)), (.long (8206 : Int64)), (.long (8255 : Int64)), (.long (8257 : Int64)), (.long (8304 : Int64)), (.long (8592 : Int64)), (.long (11264 : Int64)), (.long (12272 : Int64)), (.long (12289 : Int64)), (.long (55296 : Int64)), (.long (63744 : Int64)), (.long (0 : Int64)), (.long (0 : Int64)), (.long (0 : Int64)), (.long (0 : Int64)), (.long (0 : Int64)), (.long (0 : Int64))] (.long (0 : Int64)) := A_b1
  show ownFin _ _ _ _ _ (T75.setTop (mkF m 222 #[.val (.int p1), .val (.int p2), .unset, .unset, .unset, .unset, .unset, .unset, .unset, .unset, .unset, .unset, .unset, .unset, .unset, .unset] [(.ref b1)]))
  refine ownVia (fun _ k => XS.dup X75.here hx rfl (hb hby at_222) rfl rfl k) ?_
  show ownFin _ _ _ _ _ (T75.setTop (mkF m 223 #[.val (.int p1), .val (.int p2), .unset, .unset, .unset, .unset, .unset, .unset, .unset, .unset, .unset, .unset, .unset, .unset, .unset, .unset] [(.ref b1), (.ref b1)]))
  refine ownVia (fun _ k => XS.bipush X75.here hx rfl (hb hby at_223) k) ?_
  show ownFin _ _ _ _ _ (T75.setTop (mkF m 225 #[.val (.int p1), .val (.int p2), .unset, .unset, .unset, .unset, .unset, .unset, .unset, .unset, .unset, .unset, .unset, .unset, .unset, .unset] [(.int (32 : Int32)), (.ref b1), (.ref b1)]))
  refine ownVia (fun _ k => X75.ldc2Long hx hown (mvT hZ (hw _ (List.mem_of_getElem? (i := 33) rfl))) (g := (mkF m 225 #[.val (.int p1), .val (.int p2), .unset, .unset, .unset, .unset, .unset, .unset, .unset, .unset, .unset, .unset, .unset, .unset, .unset, .unset] [(.int (32 : Int32)), (.ref b1), (.ref b1)])) rfl (hb hby at_225) _ k) ?_
  show ownFin _ _ _ _ _ (T75.setTop (mkF m 228 #[.val (.int p1), .val (.int p2), .unset, .unset, .unset, .unset, .unset, .unset, .unset, .unset, .unset, .unset, .unset, .unset, .unset, .unset] [(.long (64976 : Int64)), (.int (32 : Int32)), (.ref b1), (.ref b1)]))
  refine ownLastore X75 hx hZ e75 A_b1 ⟨by decide, by decide⟩ (32) (by decide) (Nat.le_of_ble_eq_true rfl) N75 ge_b1 (hb hby at_228) ?_
  intro T76 h76 L76 X76 e76 N76 W76 A_b1
  have E_b1 := E_b1.wr W76
  have Z0 := own_szW Z0 W76
  have A_b1 : Arv Z h76 b1 k_b1 .long (38 : Int32) [(.long (-2147483648 : Int64)), (.long (45 : Int64)), (.long (46 : Int64)), (.long (48 : Int64)), (.long (59 : Int64)), (.long (65 : Int64)), (.long (91 : Int64)), (.long (95 : Int64)), (.long (96 : Int64)), (.long (97 : Int64)), (.long (123 : Int64)), (.long (183 : Int64)), (.long (184 : Int64)), (.long (192 : Int64)), (.long (215 : Int64)), (.long (216 : Int64)), (.long (247 : Int64)), (.long (248 : Int64)), (.long (894 : Int64)), (.long (895 : Int64)), (.long (8192 : Int64)), (.long (8204 : Int64)), (.long (8206 : Int64)), (.long (8255 : Int64)), (.long (8257 : Int64)), (.long (8304 : Int64)), (.long (8592 : Int64)), (.long (11264 : Int64)), (.long (12272 : Int64)), (.long (12289 : Int64)), (.long (55296 : Int64)), (.long (63744 : Int64)), (.long (64976 : Int64)), (.long (0 : Int64)), (.long (0 : Int64)), (.long (0 : Int64)), (.long (0 : Int64)), (.long (0 : Int64))] (.long (0 : Int64)) := A_b1
  show ownFin _ _ _ _ _ (T76.setTop (mkF m 229 #[.val (.int p1), .val (.int p2), .unset, .unset, .unset, .unset, .unset, .unset, .unset, .unset, .unset, .unset, .unset, .unset, .unset, .unset] [(.ref b1)]))
  refine ownVia (fun _ k => XS.dup X76.here hx rfl (hb hby at_229) rfl rfl k) ?_
  show ownFin _ _ _ _ _ (T76.setTop (mkF m 230 #[.val (.int p1), .val (.int p2), .unset, .unset, .unset, .unset, .unset, .unset, .unset, .unset, .unset, .unset, .unset, .unset, .unset, .unset] [(.ref b1), (.ref b1)]))
  refine ownVia (fun _ k => XS.bipush X76.here hx rfl (hb hby at_230) k) ?_
  show ownFin _ _ _ _ _ (T76.setTop (mkF m 232 #[.val (.int p1), .val (.int p2), .unset, .unset, .unset, .unset, .unset, .unset, .unset, .unset, .unset, .unset, .unset, .unset, .unset, .unset] [(.int (33 : Int32)), (.ref b1), (.ref b1)]))
  refine ownVia (fun _ k => X76.ldc2Long hx hown (mvT hZ (hw _ (List.mem_of_getElem? (i := 34) rfl))) (g := (mkF m 232 #[.val (.int p1), .val (.int p2), .unset, .unset, .unset, .unset, .unset, .unset, .unset, .unset, .unset, .unset, .unset, .unset, .unset, .unset] [(.int (33 : Int32)), (.ref b1), (.ref b1)])) rfl (hb hby at_232) _ k) ?_
  show ownFin _ _ _ _ _ (T76.setTop (mkF m 235 #[.val (.int p1), .val (.int p2), .unset, .unset, .unset, .unset, .unset, .unset, .unset, .unset, .unset, .unset, .unset, .unset, .unset, .unset] [(.long (65008 : Int64)), (.int (33 : Int32)), (.ref b1), (.ref b1)]))
  refine ownLastore X76 hx hZ e76 A_b1 ⟨by decide, by decide⟩ (33) (by decide) (Nat.le_of_ble_eq_true rfl) N76 ge_b1 (hb hby at_235) ?_
  intro T77 h77 L77 X77 e77 N77 W77 A_b1
  have E_b1 := E_b1.wr W77
  have Z0 := own_szW Z0 W77
  have A_b1 : Arv Z h77 b1 k_b1 .long (38 : Int32) [(.long (-2147483648 : Int64)), (.long (45 : Int64)), (.long (46 : Int64)), (.long (48 : Int64)), (.long (59 : Int64)), (.long (65 : Int64)), (.long (91 : Int64)), (.long (95 : Int64)), (.long (96 : Int64)), (.long (97 : Int64)), (.long (123 : Int64)), (.long (183 : Int64)), (.long (184 : Int64)), (.long (192 : Int64)), (.long (215 : Int64)), (.long (216 : Int64)), (.long (247 : Int64)), (.long (248 : Int64)), (.long (894 : Int64)), (.long (895 : Int64)), (.long (8192 : Int64)), (.long (8204 : Int64)), (.long (8206 : Int64)), (.long (8255 : Int64)), (.long (8257 : Int64)), (.long (8304 : Int64)), (.long (8592 : Int64)), (.long (11264 : Int64)), (.long (12272 : Int64)), (.long (12289 : Int64)), (.long (55296 : Int64)), (.long (63744 : Int64)), (.long (64976 : Int64)), (.long (65008 : Int64)), (.long (0 : Int64)), (.long (0 : Int64)), (.long (0 : Int64)), (.long (0 : Int64))] (.long (0 : Int64)) := A_b1
  show ownFin _ _ _ _ _ (T77.setTop (mkF m 236 #[.val (.int p1), .val (.int p2), .unset, .unset, .unset, .unset, .unset, .unset, .unset, .unset, .unset, .unset, .unset, .unset, .unset, .unset] [(.ref b1)]))
  refine ownVia (fun _ k => XS.dup X77.here hx rfl (hb hby at_236) rfl rfl k) ?_
  show ownFin _ _ _ _ _ (T77.setTop (mkF m 237 #[.val (.int p1), .val (.int p2), .unset, .unset, .unset, .unset, .unset, .unset, .unset, .unset, .unset, .unset, .unset, .unset, .unset, .unset] [(.ref b1), (.ref b1)]))
  refine ownVia (fun _ k => XS.bipush X77.here hx rfl (hb hby at_237) k) ?_
  show ownFin _ _ _ _ _ (T77.setTop (mkF m 239 #[.val (.int p1), .val (.int p2), .unset, .unset, .unset, .unset, .unset, .unset, .unset, .unset, .unset, .unset, .unset, .unset, .unset, .unset] [(.int (34 : Int32)), (.ref b1), (.ref b1)]))
  refine ownVia (fun _ k => X77.ldc2Long hx hown (mvT hZ (hw _ (List.mem_of_getElem? (i := 35) rfl))) (g := (mkF m 239 #[.val (.int p1), .val (.int p2), .unset, .unset, .unset, .unset, .unset, .unset, .unset, .unset, .unset, .unset, .unset, .unset, .unset, .unset] [(.int (34 : Int32)), (.ref b1), (.ref b1)])) rfl (hb hby at_239) _ k) ?_
  show ownFin _ _ _ _ _ (T77.setTop (mkF m 242 #[.val (.int p1), .val (.int p2), .unset, .unset, .unset, .unset, .unset, .unset, .unset, .unset, .unset, .unset, .unset, .unset, .unset, .unset] [(.long (65534 : Int64)), (.int (34 : Int32)), (.ref b1), (.ref b1)]))
  refine ownLastore X77 hx hZ e77 A_b1 ⟨by decide, by decide⟩ (34) (by decide) (Nat.le_of_ble_eq_true rfl) N77 ge_b1 (hb hby at_242) ?_
  intro T78 h78 L78 X78 e78 N78 W78 A_b1
  have E_b1 := E_b1.wr W78
  have Z0 := own_szW Z0 W78
  have A_b1 : Arv Z h78 b1 k_b1 .long (38 : Int32) [(.long (-2147483648 : Int64)), (.long (45 : Int64)), (.long (46 : Int64)), (.long (48 : Int64)), (.long (59 : Int64)), (.long (65 : Int64)), (.long (91 : Int64)), (.long (95 : Int64)), (.long (96 : Int64)), (.long (97 : Int64)), (.long (123 : Int64)), (.long (183 : Int64)), (.long (184 : Int64)), (.long (192 : Int64)), (.long (215 : Int64)), (.long (216 : Int64)), (.long (247 : Int64)), (.long (248 : Int64)), (.long (894 : Int64)), (.long (895 : Int64)), (.long (8192 : Int64)), (.long (8204 : Int64)), (.long (8206 : Int64)), (.long (8255 : Int64)), (.long (8257 : Int64)), (.long (8304 : Int64)), (.long (8592 : Int64)), (.long (11264 : Int64)), (.long (12272 : Int64)), (.long (12289 : Int64)), (.long (55296 : Int64)), (.long (63744 : Int64)), (.long (64976 : Int64)), (.long (65008 : Int64)), (.long (65534 : Int64)), (.long (0 : Int64)), (.long (0 : Int64)), (.long (0 : Int64))] (.long (0 : Int64)) := A_b1
  show ownFin _ _ _ _ _ (T78.setTop (mkF m 243 #[.val (.int p1), .val (.int p2), .unset, .unset, .unset, .unset, .unset, .unset, .unset, .unset, .unset, .unset, .unset, .unset, .unset, .unset] [(.ref b1)]))
  refine ownVia (fun _ k => XS.dup X78.here hx rfl (hb hby at_243) rfl rfl k) ?_
  show ownFin _ _ _ _ _ (T78.setTop (mkF m 244 #[.val (.int p1), .val (.int p2), .unset, .unset, .unset, .unset, .unset, .unset, .unset, .unset, .unset, .unset, .unset, .unset, .unset, .unset] [(.ref b1), (.ref b1)]))
  refine ownVia (fun _ k => XS.bipush X78.here hx rfl (hb hby at_244) k) ?_
  show ownFin _ _ _ _ _ (T78.setTop (mkF m 246 #[.val (.int p1), .val (.int p2), .unset, .unset, .unset, .unset, .unset, .unset, .unset, .unset, .unset, .unset, .unset, .unset, .unset, .unset] [(.int (35 : Int32)), (.ref b1), (.ref b1)]))
  refine ownVia (fun _ k => X78.ldc2Long hx hown (mvT hZ (hw _ (List.mem_of_getElem? (i := 36) rfl))) (g := (mkF m 246 #[.val (.int p1), .val (.int p2), .unset, .unset, .unset, .unset, .unset, .unset, .unset, .unset, .unset, .unset, .unset, .unset, .unset, .unset] [(.int (35 : Int32)), (.ref b1), (.ref b1)])) rfl (hb hby at_246) _ k) ?_
  show ownFin _ _ _ _ _ (T78.setTop (mkF m 249 #[.val (.int p1), .val (.int p2), .unset, .unset, .unset, .unset, .unset, .unset, .unset, .unset, .unset, .unset, .unset, .unset, .unset, .unset] [(.long (65536 : Int64)), (.int (35 : Int32)), (.ref b1), (.ref b1)]))
  refine ownLastore X78 hx hZ e78 A_b1 ⟨by decide, by decide⟩ (35) (by decide) (Nat.le_of_ble_eq_true rfl) N78 ge_b1 (hb hby at_249) ?_
  intro T79 h79 L79 X79 e79 N79 W79 A_b1
  have E_b1 := E_b1.wr W79
  have Z0 := own_szW Z0 W79
  have A_b1 : Arv Z h79 b1 k_b1 .long (38 : Int32) [(.long (-2147483648 : Int64)), (.long (45 : Int64)), (.long (46 : Int64)), (.long (48 : Int64)), (.long (59 : Int64)), (.long (65 : Int64)), (.long (91 : Int64)), (.long (95 : Int64)), (.long (96 : Int64)), (.long (97 : Int64)), (.long (123 : Int64)), (.long (183 : Int64)), (.long (184 : Int64)), (.long (192 : Int64)), (.long (215 : Int64)), (.long (216 : Int64)), (.long (247 : Int64)), (.long (248 : Int64)), (.long (894 : Int64)), (.long (895 : Int64)), (.long (8192 : Int64)), (.long (8204 : Int64)), (.long (8206 : Int64)), (.long (8255 : Int64)), (.long (8257 : Int64)), (.long (8304 : Int64)), (.long (8592 : Int64)), (.long (11264 : Int64)), (.long (12272 : Int64)), (.long (12289 : Int64)), (.long (55296 : Int64)), (.long (63744 : Int64)), (.long (64976 : Int64)), (.long (65008 : Int64)), (.long (65534 : Int64)), (.long (65536 : Int64)), (.long (0 : Int64)), (.long (0 : Int64))] (.long (0 : Int64)) := A_b1
  show ownFin _ _ _ _ _ (T79.setTop (mkF m 250 #[.val (.int p1), .val (.int p2), .unset, .unset, .unset, .unset, .unset, .unset, .unset, .unset, .unset, .unset, .unset, .unset, .unset, .unset] [(.ref b1)]))
  refine ownVia (fun _ k => XS.dup X79.here hx rfl (hb hby at_250) rfl rfl k) ?_
  show ownFin _ _ _ _ _ (T79.setTop (mkF m 251 #[.val (.int p1), .val (.int p2), .unset, .unset, .unset, .unset, .unset, .unset, .unset, .unset, .unset, .unset, .unset, .unset, .unset, .unset] [(.ref b1), (.ref b1)]))
  refine ownVia (fun _ k => XS.bipush X79.here hx rfl (hb hby at_251) k) ?_
  show ownFin _ _ _ _ _ (T79.setTop (mkF m 253 #[.val (.int p1), .val (.int p2), .unset, .unset, .unset, .unset, .unset, .unset, .unset, .unset, .unset, .unset, .unset, .unset, .unset, .unset] [(.int (36 : Int32)), (.ref b1), (.ref b1)]))
  refine ownVia (fun _ k => X79.ldc2Long hx hown (mvT hZ (hw _ (List.mem_of_getElem? (i := 37) rfl))) (g := (mkF m 253 #[.val (.int p1), .val (.int p2), .unset, .unset, .unset, .unset, .unset, .unset, .unset, .unset, .unset, .unset, .unset, .unset, .unset, .unset] [(.int (36 : Int32)), (.ref b1), (.ref b1)])) rfl (hb hby at_253) _ k) ?_
  show ownFin _ _ _ _ _ (T79.setTop (mkF m 256 #[.val (.int p1), .val (.int p2), .unset, .unset, .unset, .unset, .unset, .unset, .unset, .unset, .unset, .unset, .unset, .unset, .unset, .unset] [(.long (983040 : Int64)), (.int (36 : Int32)), (.ref b1), (.ref b1)]))
  refine ownLastore X79 hx hZ e79 A_b1 ⟨by decide, by decide⟩ (36) (by decide) (Nat.le_of_ble_eq_true rfl) N79 ge_b1 (hb hby at_256) ?_
  intro T80 h80 L80 X80 e80 N80 W80 A_b1
  have E_b1 := E_b1.wr W80
  have Z0 := own_szW Z0 W80
  have A_b1 : Arv Z h80 b1 k_b1 .long (38 : Int32) [(.long (-2147483648 : Int64)), (.long (45 : Int64)), (.long (46 : Int64)), (.long (48 : Int64)), (.long (59 : Int64)), (.long (65 : Int64)), (.long (91 : Int64)), (.long (95 : Int64)), (.long (96 : Int64)), (.long (97 : Int64)), (.long (123 : Int64)), (.long (183 : Int64)), (.long (184 : Int64)), (.long (192 : Int64)), (.long (215 : Int64)), (.long (216 : Int64)), (.long (247 : Int64)), (.long (248 : Int64)), (.long (894 : Int64)), (.long (895 : Int64)), (.long (8192 : Int64)), (.long (8204 : Int64)), (.long (8206 : Int64)), (.long (8255 : Int64)), (.long (8257 : Int64)), (.long (8304 : Int64)), (.long (8592 : Int64)), (.long (11264 : Int64)), (.long (12272 : Int64)), (.long (12289 : Int64)), (.long (55296 : Int64)), (.long (63744 : Int64)), (.long (64976 : Int64)), (.long (65008 : Int64)), (.long (65534 : Int64)), (.long (65536 : Int64)), (.long (983040 : Int64)), (.long (0 : Int64))] (.long (0 : Int64)) := A_b1
  show ownFin _ _ _ _ _ (T80.setTop (mkF m 257 #[.val (.int p1), .val (.int p2), .unset, .unset, .unset, .unset, .unset, .unset, .unset, .unset, .unset, .unset, .unset, .unset, .unset, .unset] [(.ref b1)]))
  refine ownVia (fun _ k => XS.dup X80.here hx rfl (hb hby at_257) rfl rfl k) ?_
  show ownFin _ _ _ _ _ (T80.setTop (mkF m 258 #[.val (.int p1), .val (.int p2), .unset, .unset, .unset, .unset, .unset, .unset, .unset, .unset, .unset, .unset, .unset, .unset, .unset, .unset] [(.ref b1), (.ref b1)]))
  refine ownVia (fun _ k => XS.bipush X80.here hx rfl (hb hby at_258) k) ?_
  show ownFin _ _ _ _ _ (T80.setTop (mkF m 260 #[.val (.int p1), .val (.int p2), .unset, .unset, .unset, .unset, .unset, .unset, .unset, .unset, .unset, .unset, .unset, .unset, .unset, .unset] [(.int (37 : Int32)), (.ref b1), (.ref b1)]))
  refine ownVia (fun _ k => X80.ldc2Long hx hown (mvT hZ (hw _ (List.mem_of_getElem? (i := 38) rfl))) (g := (mkF m 260 #[.val (.int p1), .val (.int p2), .unset, .unset, .unset, .unset, .unset, .unset, .unset, .unset, .unset, .unset, .unset, .unset, .unset, .unset] [(.int (37 : Int32)), (.ref b1), (.ref b1)])) rfl (hb hby at_260) _ k) ?_
  show ownFin _ _ _ _ _ (T80.setTop (mkF m 263 #[.val (.int p1), .val (.int p2), .unset, .unset, .unset, .unset, .unset, .unset, .unset, .unset, .unset, .unset, .unset, .unset, .unset, .unset] [(.long (2147483648 : Int64)), (.int (37 : Int32)), (.ref b1), (.ref b1)]))
  refine ownLastore X80 hx hZ e80 A_b1 ⟨by decide, by decide⟩ (37) (by decide) (Nat.le_of_ble_eq_true rfl) N80 ge_b1 (hb hby at_263) ?_
  intro T81 h81 L81 X81 e81 N81 W81 A_b1
  have E_b1 := E_b1.wr W81
  have Z0 := own_szW Z0 W81
  have A_b1 : Arv Z h81 b1 k_b1 .long (38 : Int32) [(.long (-2147483648 : Int64)), (.long (45 : Int64)), (.long (46 : Int64)), (.long (48 : Int64)), (.long (59 : Int64)), (.long (65 : Int64)), (.long (91 : Int64)), (.long (95 : Int64)), (.long (96 : Int64)), (.long (97 : Int64)), (.long (123 : Int64)), (.long (183 : Int64)), (.long (184 : Int64)), (.long (192 : Int64)), (.long (215 : Int64)), (.long (216 : Int64)), (.long (247 : Int64)), (.long (248 : Int64)), (.long (894 : Int64)), (.long (895 : Int64)), (.long (8192 : Int64)), (.long (8204 : Int64)), (.long (8206 : Int64)), (.long (8255 : Int64)), (.long (8257 : Int64)), (.long (8304 : Int64)), (.long (8592 : Int64)), (.long (11264 : Int64)), (.long (12272 : Int64)), (.long (12289 : Int64)), (.long (55296 : Int64)), (.long (63744 : Int64)), (.long (64976 : Int64)), (.long (65008 : Int64)), (.long (65534 : Int64)), (.long (65536 : Int64)), (.long (983040 : Int64)), (.long (2147483648 : Int64))] (.long (0 : Int64)) := A_b1
  show ownFin _ _ _ _ _ (T81.setTop (mkF m 264 #[.val (.int p1), .val (.int p2), .unset, .unset, .unset, .unset, .unset, .unset, .unset, .unset, .unset, .unset, .unset, .unset, .unset, .unset] [(.ref b1)]))
  refine ownVia (fun _ k => XS.astoreN X81.here hx rfl (hb hby at_264) rfl rfl (l' := #[.val (.int p1), .val (.int p2), .val (.ref b1), .unset, .unset, .unset, .unset, .unset, .unset, .unset, .unset, .unset, .unset, .unset, .unset, .unset]) rfl k) ?_
  show ownFin _ _ _ _ _ (T81.setTop (mkF m 265 #[.val (.int p1), .val (.int p2), .val (.ref b1), .unset, .unset, .unset, .unset, .unset, .unset, .unset, .unset, .unset, .unset, .unset, .unset, .unset] []))
  refine ownVia (fun _ k => XS.iloadN X81.here hx rfl (hb hby at_265) rfl k) ?_
  show ownFin _ _ _ _ _ (T81.setTop (mkF m 266 #[.val (.int p1), .val (.int p2), .val (.ref b1), .unset, .unset, .unset, .unset, .unset, .unset, .unset, .unset, .unset, .unset, .unset, .unset, .unset] [(.int p1)]))
  refine ownVia (fun _ k => X81.ldcInt hx hown (mvT hZ (hw _ (List.mem_of_getElem? (i := 39) rfl))) (g := (mkF m 266 #[.val (.int p1), .val (.int p2), .val (.ref b1), .unset, .unset, .unset, .unset, .unset, .unset, .unset, .unset, .unset, .unset, .unset, .unset, .unset] [(.int p1)])) rfl (hb hby at_266) _ k) ?_
  show ownFin _ _ _ _ _ (T81.setTop (mkF m 268 #[.val (.int p1), .val (.int p2), .val (.ref b1), .unset, .unset, .unset, .unset, .unset, .unset, .unset, .unset, .unset, .unset, .unset, .unset, .unset] [(.int (2147483647 : Int32)), (.int p1)]))
  refine ownVia (fun _ k => XS.iand X81.here hx rfl (hb hby at_268) rfl k) ?_
  show ownFin _ _ _ _ _ (T81.setTop (mkF m 269 #[.val (.int p1), .val (.int p2), .val (.ref b1), .unset, .unset, .unset, .unset, .unset, .unset, .unset, .unset, .unset, .unset, .unset, .unset, .unset] [(.int (p1 &&& (2147483647 : Int32)))]))
  refine ownVia (fun _ k => XS.bipush X81.here hx rfl (hb hby at_269) k) ?_
  show ownFin _ _ _ _ _ (T81.setTop (mkF m 271 #[.val (.int p1), .val (.int p2), .val (.ref b1), .unset, .unset, .unset, .unset, .unset, .unset, .unset, .unset, .unset, .unset, .unset, .unset, .unset] [(.int (37 : Int32)), (.int (p1 &&& (2147483647 : Int32)))]))
  refine ownVia (fun _ k => iremM X81 hx rfl (hb hby at_271) rfl (by decide) k) ?_
  show ownFin _ _ _ _ _ (T81.setTop (mkF m 272 #[.val (.int p1), .val (.int p2), .val (.ref b1), .unset, .unset, .unset, .unset, .unset, .unset, .unset, .unset, .unset, .unset, .unset, .unset, .unset] [(.int ((p1 &&& (2147483647 : Int32)) % (37 : Int32)))]))
  have hiv := own_iv p1
  generalize h_iv : ((p1 &&& (2147483647 : Int32)) % (37 : Int32)) = iv
  show ownFin _ _ _ _ _ (T81.setTop (mkF m 272 #[.val (.int p1), .val (.int p2), .val (.ref b1), .unset, .unset, .unset, .unset, .unset, .unset, .unset, .unset, .unset, .unset, .unset, .unset, .unset] [(.int iv)]))
  rw [h_iv] at hiv
  obtain ⟨n, hn⟩ : ∃ n : Nat, iv.toInt = n := ⟨iv.toInt.toNat, by omega⟩
  have hn37 : n < 37 := by omega
  have hc0 := own_clamp hn
  have hi1 : (iv + (1 : Int32)).toInt = ((n + 1 : Nat) : Int) := by have a := c_iadd iv 1; have b := rng32 (iv + 1); have d : (1 : Int32).toInt = 1 := (by decide); omega
  have hc1 := own_clamp hi1
  have hm := c_mask iv 1 1 (by decide) (by decide)
  refine ownVia (fun _ k => XS.istoreN X81.here hx rfl (hb hby at_272) rfl (l' := #[.val (.int p1), .val (.int p2), .val (.ref b1), .val (.int iv), .unset, .unset, .unset, .unset, .unset, .unset, .unset, .unset, .unset, .unset, .unset, .unset]) rfl k) ?_
  show ownFin _ _ _ _ _ (T81.setTop (mkF m 273 #[.val (.int p1), .val (.int p2), .val (.ref b1), .val (.int iv), .unset, .unset, .unset, .unset, .unset, .unset, .unset, .unset, .unset, .unset, .unset, .unset] []))
  refine ownVia (fun _ k => XS.iloadN X81.here hx rfl (hb hby at_273) rfl k) ?_
  show ownFin _ _ _ _ _ (T81.setTop (mkF m 274 #[.val (.int p1), .val (.int p2), .val (.ref b1), .val (.int iv), .unset, .unset, .unset, .unset, .unset, .unset, .unset, .unset, .unset, .unset, .unset, .unset] [(.int iv)]))
  refine ownVia (fun _ k => XS.iconst X81.here hx rfl (hb hby at_274) k) ?_
  show ownFin _ _ _ _ _ (T81.setTop (mkF m 275 #[.val (.int p1), .val (.int p2), .val (.ref b1), .val (.int iv), .unset, .unset, .unset, .unset, .unset, .unset, .unset, .unset, .unset, .unset, .unset, .unset] [(.int (1 : Int32)), (.int iv)]))
  refine ownVia (fun _ k => XS.iand X81.here hx rfl (hb hby at_275) rfl k) ?_
  show ownFin _ _ _ _ _ (T81.setTop (mkF m 276 #[.val (.int p1), .val (.int p2), .val (.ref b1), .val (.int iv), .unset, .unset, .unset, .unset, .unset, .unset, .unset, .unset, .unset, .unset, .unset, .unset] [(.int (iv &&& (1 : Int32)))]))
  refine ownVia (fun _ k => XS.iconst X81.here hx rfl (hb hby at_276) k) ?_
  show ownFin _ _ _ _ _ (T81.setTop (mkF m 277 #[.val (.int p1), .val (.int p2), .val (.ref b1), .val (.int iv), .unset, .unset, .unset, .unset, .unset, .unset, .unset, .unset, .unset, .unset, .unset, .unset] [(.int (1 : Int32)), (.int (iv &&& (1 : Int32)))]))
  by_cases hc82 : (iv &&& (1 : Int32)) = (1 : Int32)
  case pos =>
    have hc82I : (iv &&& (1 : Int32)).toInt = 1 := (own_eqi rfl (by decide)).mp hc82
    refine ownVia (fun _ k => XS.icmpNo X81.here hx rfl (hb hby at_277) rfl (teq hc82).2 k) ?_
    show ownFin _ _ _ _ _ (T81.setTop (mkF m 280 #[.val (.int p1), .val (.int p2), .val (.ref b1), .val (.int iv), .unset, .unset, .unset, .unset, .unset, .unset, .unset, .unset, .unset, .unset, .unset, .unset] []))
    refine ownVia (fun _ k => XS.iconst X81.here hx rfl (hb hby at_280) k) ?_
    show ownFin _ _ _ _ _ (T81.setTop (mkF m 281 #[.val (.int p1), .val (.int p2), .val (.ref b1), .val (.int iv), .unset, .unset, .unset, .unset, .unset, .unset, .unset, .unset, .unset, .unset, .unset, .unset] [(.int (1 : Int32))]))
    refine ownVia (fun _ k => XS.goto X81.here hx rfl (pc0 := 281) (pc' := 285) rfl (hb hby at_281) (by decide) (by decide) k) ?_
    show ownFin _ _ _ _ _ (T81.setTop (mkF m 285 #[.val (.int p1), .val (.int p2), .val (.ref b1), .val (.int iv), .unset, .unset, .unset, .unset, .unset, .unset, .unset, .unset, .unset, .unset, .unset, .unset] [(.int (1 : Int32))]))
    refine ownVia (fun _ k => XS.istore X81.here hx rfl (hb hby at_285) rfl (l' := #[.val (.int p1), .val (.int p2), .val (.ref b1), .val (.int iv), .val (.int (1 : Int32)), .unset, .unset, .unset, .unset, .unset, .unset, .unset, .unset, .unset, .unset, .unset]) rfl k) ?_
    show ownFin _ _ _ _ _ (T81.setTop (mkF m 287 #[.val (.int p1), .val (.int p2), .val (.ref b1), .val (.int iv), .val (.int (1 : Int32)), .unset, .unset, .unset, .unset, .unset, .unset, .unset, .unset, .unset, .unset, .unset] []))
    refine ownVia (fun _ k => XS.aloadN X81.here hx rfl (hb hby at_287) rfl rfl k) ?_
    show ownFin _ _ _ _ _ (T81.setTop (mkF m 288 #[.val (.int p1), .val (.int p2), .val (.ref b1), .val (.int iv), .val (.int (1 : Int32)), .unset, .unset, .unset, .unset, .unset, .unset, .unset, .unset, .unset, .unset, .unset] [(.ref b1)]))
    refine ownVia (fun _ k => XS.iloadN X81.here hx rfl (hb hby at_288) rfl k) ?_
    show ownFin _ _ _ _ _ (T81.setTop (mkF m 289 #[.val (.int p1), .val (.int p2), .val (.ref b1), .val (.int iv), .val (.int (1 : Int32)), .unset, .unset, .unset, .unset, .unset, .unset, .unset, .unset, .unset, .unset, .unset] [(.int iv), (.ref b1)]))
    refine ownLaload X81 hx hZ e81 A_b1 (own_idx (by decide : (38 : Int32).toInt = 38) hiv.1 (by omega)) (v := (.long (own_b n))) (by rw [hc0]; exact own_getD_map Value.long 0 own_btab _) (hb hby at_289) ?_
    show ownFin _ _ _ _ _ (T81.setTop (mkF m 290 #[.val (.int p1), .val (.int p2), .val (.ref b1), .val (.int iv), .val (.int (1 : Int32)), .unset, .unset, .unset, .unset, .unset, .unset, .unset, .unset, .unset, .unset, .unset] [(.long (own_b n))]))
    refine ownVia (fun _ k => XS.lstore X81.here hx rfl (hb hby at_290) rfl (l' := #[.val (.int p1), .val (.int p2), .val (.ref b1), .val (.int iv), .val (.int (1 : Int32)), .val (.long (own_b n)), .second, .unset, .unset, .unset, .unset, .unset, .unset, .unset, .unset, .unset]) rfl k) ?_
    show ownFin _ _ _ _ _ (T81.setTop (mkF m 292 #[.val (.int p1), .val (.int p2), .val (.ref b1), .val (.int iv), .val (.int (1 : Int32)), .val (.long (own_b n)), .second, .unset, .unset, .unset, .unset, .unset, .unset, .unset, .unset, .unset] []))
    refine ownVia (fun _ k => XS.aloadN X81.here hx rfl (hb hby at_292) rfl rfl k) ?_
    show ownFin _ _ _ _ _ (T81.setTop (mkF m 293 #[.val (.int p1), .val (.int p2), .val (.ref b1), .val (.int iv), .val (.int (1 : Int32)), .val (.long (own_b n)), .second, .unset, .unset, .unset, .unset, .unset, .unset, .unset, .unset, .unset] [(.ref b1)]))
    refine ownVia (fun _ k => XS.iloadN X81.here hx rfl (hb hby at_293) rfl k) ?_
    show ownFin _ _ _ _ _ (T81.setTop (mkF m 294 #[.val (.int p1), .val (.int p2), .val (.ref b1), .val (.int iv), .val (.int (1 : Int32)), .val (.long (own_b n)), .second, .unset, .unset, .unset, .unset, .unset, .unset, .unset, .unset, .unset] [(.int iv), (.ref b1)]))
    refine ownVia (fun _ k => XS.iconst X81.here hx rfl (hb hby at_294) k) ?_
    show ownFin _ _ _ _ _ (T81.setTop (mkF m 295 #[.val (.int p1), .val (.int p2), .val (.ref b1), .val (.int iv), .val (.int (1 : Int32)), .val (.long (own_b n)), .second, .unset, .unset, .unset, .unset, .unset, .unset, .unset, .unset, .unset] [(.int (1 : Int32)), (.int iv), (.ref b1)]))
    refine ownVia (fun _ k => XS.iadd X81.here hx rfl (hb hby at_295) rfl k) ?_
    show ownFin _ _ _ _ _ (T81.setTop (mkF m 296 #[.val (.int p1), .val (.int p2), .val (.ref b1), .val (.int iv), .val (.int (1 : Int32)), .val (.long (own_b n)), .second, .unset, .unset, .unset, .unset, .unset, .unset, .unset, .unset, .unset] [(.int (iv + (1 : Int32))), (.ref b1)]))
    refine ownLaload X81 hx hZ e81 A_b1 (own_idx (by decide : (38 : Int32).toInt = 38) (by omega) (by omega)) (v := (.long (own_b (n + 1)))) (by rw [hc1]; exact own_getD_map Value.long 0 own_btab _) (hb hby at_296) ?_
    show ownFin _ _ _ _ _ (T81.setTop (mkF m 297 #[.val (.int p1), .val (.int p2), .val (.ref b1), .val (.int iv), .val (.int (1 : Int32)), .val (.long (own_b n)), .second, .unset, .unset, .unset, .unset, .unset, .unset, .unset, .unset, .unset] [(.long (own_b (n + 1)))]))
    refine ownVia (fun _ k => XS.lconst X81.here hx rfl (hb hby at_297) k) ?_
    show ownFin _ _ _ _ _ (T81.setTop (mkF m 298 #[.val (.int p1), .val (.int p2), .val (.ref b1), .val (.int iv), .val (.int (1 : Int32)), .val (.long (own_b n)), .second, .unset, .unset, .unset, .unset, .unset, .unset, .unset, .unset, .unset] [(.long (1 : Int64)), (.long (own_b (n + 1)))]))
    refine ownVia (fun _ k => XS.lsub X81.here hx rfl (hb hby at_298) rfl k) ?_
    show ownFin _ _ _ _ _ (T81.setTop (mkF m 299 #[.val (.int p1), .val (.int p2), .val (.ref b1), .val (.int iv), .val (.int (1 : Int32)), .val (.long (own_b n)), .second, .unset, .unset, .unset, .unset, .unset, .unset, .unset, .unset, .unset] [(.long ((own_b (n + 1)) - (1 : Int64)))]))
    refine ownVia (fun _ k => XS.lstore X81.here hx rfl (hb hby at_299) rfl (l' := #[.val (.int p1), .val (.int p2), .val (.ref b1), .val (.int iv), .val (.int (1 : Int32)), .val (.long (own_b n)), .second, .val (.long ((own_b (n + 1)) - (1 : Int64))), .second, .unset, .unset, .unset, .unset, .unset, .unset, .unset]) rfl k) ?_
    show ownFin _ _ _ _ _ (T81.setTop (mkF m 301 #[.val (.int p1), .val (.int p2), .val (.ref b1), .val (.int iv), .val (.int (1 : Int32)), .val (.long (own_b n)), .second, .val (.long ((own_b (n + 1)) - (1 : Int64))), .second, .unset, .unset, .unset, .unset, .unset, .unset, .unset] []))
    refine ownVia (fun _ k => XS.aloadN X81.here hx rfl (hb hby at_301) rfl rfl k) ?_
    show ownFin _ _ _ _ _ (T81.setTop (mkF m 302 #[.val (.int p1), .val (.int p2), .val (.ref b1), .val (.int iv), .val (.int (1 : Int32)), .val (.long (own_b n)), .second, .val (.long ((own_b (n + 1)) - (1 : Int64))), .second, .unset, .unset, .unset, .unset, .unset, .unset, .unset] [(.ref b1)]))
    refine ownVia (fun _ k => XS.iloadN X81.here hx rfl (hb hby at_302) rfl k) ?_
    show ownFin _ _ _ _ _ (T81.setTop (mkF m 303 #[.val (.int p1), .val (.int p2), .val (.ref b1), .val (.int iv), .val (.int (1 : Int32)), .val (.long (own_b n)), .second, .val (.long ((own_b (n + 1)) - (1 : Int64))), .second, .unset, .unset, .unset, .unset, .unset, .unset, .unset] [(.int iv), (.ref b1)]))
    refine ownVia (fun _ k => XS.iconst X81.here hx rfl (hb hby at_303) k) ?_
    show ownFin _ _ _ _ _ (T81.setTop (mkF m 304 #[.val (.int p1), .val (.int p2), .val (.ref b1), .val (.int iv), .val (.int (1 : Int32)), .val (.long (own_b n)), .second, .val (.long ((own_b (n + 1)) - (1 : Int64))), .second, .unset, .unset, .unset, .unset, .unset, .unset, .unset] [(.int (1 : Int32)), (.int iv), (.ref b1)]))
    refine ownVia (fun _ k => XS.iadd X81.here hx rfl (hb hby at_304) rfl k) ?_
    show ownFin _ _ _ _ _ (T81.setTop (mkF m 305 #[.val (.int p1), .val (.int p2), .val (.ref b1), .val (.int iv), .val (.int (1 : Int32)), .val (.long (own_b n)), .second, .val (.long ((own_b (n + 1)) - (1 : Int64))), .second, .unset, .unset, .unset, .unset, .unset, .unset, .unset] [(.int (iv + (1 : Int32))), (.ref b1)]))
    refine ownLaload X81 hx hZ e81 A_b1 (own_idx (by decide : (38 : Int32).toInt = 38) (by omega) (by omega)) (v := (.long (own_b (n + 1)))) (by rw [hc1]; exact own_getD_map Value.long 0 own_btab _) (hb hby at_305) ?_
    show ownFin _ _ _ _ _ (T81.setTop (mkF m 306 #[.val (.int p1), .val (.int p2), .val (.ref b1), .val (.int iv), .val (.int (1 : Int32)), .val (.long (own_b n)), .second, .val (.long ((own_b (n + 1)) - (1 : Int64))), .second, .unset, .unset, .unset, .unset, .unset, .unset, .unset] [(.long (own_b (n + 1)))]))
    refine ownVia (fun _ k => XS.lload X81.here hx rfl (hb hby at_306) rfl k) ?_
    show ownFin _ _ _ _ _ (T81.setTop (mkF m 308 #[.val (.int p1), .val (.int p2), .val (.ref b1), .val (.int iv), .val (.int (1 : Int32)), .val (.long (own_b n)), .second, .val (.long ((own_b (n + 1)) - (1 : Int64))), .second, .unset, .unset, .unset, .unset, .unset, .unset, .unset] [(.long (own_b n)), (.long (own_b (n + 1)))]))
    refine ownVia (fun _ k => XS.lsub X81.here hx rfl (hb hby at_308) rfl k) ?_
    show ownFin _ _ _ _ _ (T81.setTop (mkF m 309 #[.val (.int p1), .val (.int p2), .val (.ref b1), .val (.int iv), .val (.int (1 : Int32)), .val (.long (own_b n)), .second, .val (.long ((own_b (n + 1)) - (1 : Int64))), .second, .unset, .unset, .unset, .unset, .unset, .unset, .unset] [(.long ((own_b (n + 1)) - (own_b n)))]))
    refine ownVia (fun _ k => XS.lstore X81.here hx rfl (hb hby at_309) rfl (l' := #[.val (.int p1), .val (.int p2), .val (.ref b1), .val (.int iv), .val (.int (1 : Int32)), .val (.long (own_b n)), .second, .val (.long ((own_b (n + 1)) - (1 : Int64))), .second, .val (.long ((own_b (n + 1)) - (own_b n))), .second, .unset, .unset, .unset, .unset, .unset]) rfl k) ?_
    show ownFin _ _ _ _ _ (T81.setTop (mkF m 311 #[.val (.int p1), .val (.int p2), .val (.ref b1), .val (.int iv), .val (.int (1 : Int32)), .val (.long (own_b n)), .second, .val (.long ((own_b (n + 1)) - (1 : Int64))), .second, .val (.long ((own_b (n + 1)) - (own_b n))), .second, .unset, .unset, .unset, .unset, .unset] []))
    refine ownVia (fun _ k => XS.lload X81.here hx rfl (hb hby at_311) rfl k) ?_
    show ownFin _ _ _ _ _ (T81.setTop (mkF m 313 #[.val (.int p1), .val (.int p2), .val (.ref b1), .val (.int iv), .val (.int (1 : Int32)), .val (.long (own_b n)), .second, .val (.long ((own_b (n + 1)) - (1 : Int64))), .second, .val (.long ((own_b (n + 1)) - (own_b n))), .second, .unset, .unset, .unset, .unset, .unset] [(.long (own_b n))]))
    refine ownVia (fun _ k => XS.iloadN X81.here hx rfl (hb hby at_313) rfl k) ?_
    show ownFin _ _ _ _ _ (T81.setTop (mkF m 314 #[.val (.int p1), .val (.int p2), .val (.ref b1), .val (.int iv), .val (.int (1 : Int32)), .val (.long (own_b n)), .second, .val (.long ((own_b (n + 1)) - (1 : Int64))), .second, .val (.long ((own_b (n + 1)) - (own_b n))), .second, .unset, .unset, .unset, .unset, .unset] [(.int p2), (.long (own_b n))]))
    refine ownVia (fun _ k => XS.i2l X81.here hx rfl (hb hby at_314) rfl k) ?_
    show ownFin _ _ _ _ _ (T81.setTop (mkF m 315 #[.val (.int p1), .val (.int p2), .val (.ref b1), .val (.int iv), .val (.int (1 : Int32)), .val (.long (own_b n)), .second, .val (.long ((own_b (n + 1)) - (1 : Int64))), .second, .val (.long ((own_b (n + 1)) - (own_b n))), .second, .unset, .unset, .unset, .unset, .unset] [(.long (p2.toInt64)), (.long (own_b n))]))
    refine ownVia (fun _ k => X81.ldc2Long hx hown (mvT hZ (hw _ (List.mem_of_getElem? (i := 40) rfl))) (g := (mkF m 315 #[.val (.int p1), .val (.int p2), .val (.ref b1), .val (.int iv), .val (.int (1 : Int32)), .val (.long (own_b n)), .second, .val (.long ((own_b (n + 1)) - (1 : Int64))), .second, .val (.long ((own_b (n + 1)) - (own_b n))), .second, .unset, .unset, .unset, .unset, .unset] [(.long (p2.toInt64)), (.long (own_b n))])) rfl (hb hby at_315) _ k) ?_
    show ownFin _ _ _ _ _ (T81.setTop (mkF m 318 #[.val (.int p1), .val (.int p2), .val (.ref b1), .val (.int iv), .val (.int (1 : Int32)), .val (.long (own_b n)), .second, .val (.long ((own_b (n + 1)) - (1 : Int64))), .second, .val (.long ((own_b (n + 1)) - (own_b n))), .second, .unset, .unset, .unset, .unset, .unset] [(.long (4294967295 : Int64)), (.long (p2.toInt64)), (.long (own_b n))]))
    refine ownVia (fun _ k => XS.land X81.here hx rfl (hb hby at_318) rfl k) ?_
    show ownFin _ _ _ _ _ (T81.setTop (mkF m 319 #[.val (.int p1), .val (.int p2), .val (.ref b1), .val (.int iv), .val (.int (1 : Int32)), .val (.long (own_b n)), .second, .val (.long ((own_b (n + 1)) - (1 : Int64))), .second, .val (.long ((own_b (n + 1)) - (own_b n))), .second, .unset, .unset, .unset, .unset, .unset] [(.long ((p2.toInt64) &&& (4294967295 : Int64))), (.long (own_b n))]))
    refine ownVia (fun _ k => XS.lload X81.here hx rfl (hb hby at_319) rfl k) ?_
    show ownFin _ _ _ _ _ (T81.setTop (mkF m 321 #[.val (.int p1), .val (.int p2), .val (.ref b1), .val (.int iv), .val (.int (1 : Int32)), .val (.long (own_b n)), .second, .val (.long ((own_b (n + 1)) - (1 : Int64))), .second, .val (.long ((own_b (n + 1)) - (own_b n))), .second, .unset, .unset, .unset, .unset, .unset] [(.long ((own_b (n + 1)) - (own_b n))), (.long ((p2.toInt64) &&& (4294967295 : Int64))), (.long (own_b n))]))
    have ok := own_bok n hn37
    generalize h_lo : (own_b n) = lo
    show ownFin _ _ _ _ _ (T81.setTop (mkF m 321 #[.val (.int p1), .val (.int p2), .val (.ref b1), .val (.int iv), .val (.int (1 : Int32)), .val (.long lo), .second, .val (.long ((own_b (n + 1)) - (1 : Int64))), .second, .val (.long ((own_b (n + 1)) - lo)), .second, .unset, .unset, .unset, .unset, .unset] [(.long ((own_b (n + 1)) - lo)), (.long ((p2.toInt64) &&& (4294967295 : Int64))), (.long lo)]))
    generalize h_hi : (own_b (n + 1)) = hi
    show ownFin _ _ _ _ _ (T81.setTop (mkF m 321 #[.val (.int p1), .val (.int p2), .val (.ref b1), .val (.int iv), .val (.int (1 : Int32)), .val (.long lo), .second, .val (.long (hi - (1 : Int64))), .second, .val (.long (hi - lo)), .second, .unset, .unset, .unset, .unset, .unset] [(.long (hi - lo)), (.long ((p2.toInt64) &&& (4294967295 : Int64))), (.long lo)]))
    have cc := own_cc hn37 p2 h_lo.symm h_hi.symm
    refine ownVia (fun _ k => XS.lrem X81.here hx rfl (hb hby at_321) rfl cc.1 k) ?_
    show ownFin _ _ _ _ _ (T81.setTop (mkF m 322 #[.val (.int p1), .val (.int p2), .val (.ref b1), .val (.int iv), .val (.int (1 : Int32)), .val (.long lo), .second, .val (.long (hi - (1 : Int64))), .second, .val (.long (hi - lo)), .second, .unset, .unset, .unset, .unset, .unset] [(.long (((p2.toInt64) &&& (4294967295 : Int64)) - (((p2.toInt64) &&& (4294967295 : Int64)) / (hi - lo)) * (hi - lo))), (.long lo)]))
    refine ownVia (fun _ k => XS.ladd X81.here hx rfl (hb hby at_322) rfl k) ?_
    show ownFin _ _ _ _ _ (T81.setTop (mkF m 323 #[.val (.int p1), .val (.int p2), .val (.ref b1), .val (.int iv), .val (.int (1 : Int32)), .val (.long lo), .second, .val (.long (hi - (1 : Int64))), .second, .val (.long (hi - lo)), .second, .unset, .unset, .unset, .unset, .unset] [(.long (lo + (((p2.toInt64) &&& (4294967295 : Int64)) - (((p2.toInt64) &&& (4294967295 : Int64)) / (hi - lo)) * (hi - lo))))]))
    refine ownVia (fun _ k => XS.lstore X81.here hx rfl (hb hby at_323) rfl (l' := #[.val (.int p1), .val (.int p2), .val (.ref b1), .val (.int iv), .val (.int (1 : Int32)), .val (.long lo), .second, .val (.long (hi - (1 : Int64))), .second, .val (.long (hi - lo)), .second, .val (.long (lo + (((p2.toInt64) &&& (4294967295 : Int64)) - (((p2.toInt64) &&& (4294967295 : Int64)) / (hi - lo)) * (hi - lo)))), .second, .unset, .unset, .unset]) rfl k) ?_
    show ownFin _ _ _ _ _ (T81.setTop (mkF m 325 #[.val (.int p1), .val (.int p2), .val (.ref b1), .val (.int iv), .val (.int (1 : Int32)), .val (.long lo), .second, .val (.long (hi - (1 : Int64))), .second, .val (.long (hi - lo)), .second, .val (.long (lo + (((p2.toInt64) &&& (4294967295 : Int64)) - (((p2.toInt64) &&& (4294967295 : Int64)) / (hi - lo)) * (hi - lo)))), .second, .unset, .unset, .unset] []))
    refine ownVia (fun _ k => XS.lload X81.here hx rfl (hb hby at_325) rfl k) ?_
    show ownFin _ _ _ _ _ (T81.setTop (mkF m 327 #[.val (.int p1), .val (.int p2), .val (.ref b1), .val (.int iv), .val (.int (1 : Int32)), .val (.long lo), .second, .val (.long (hi - (1 : Int64))), .second, .val (.long (hi - lo)), .second, .val (.long (lo + (((p2.toInt64) &&& (4294967295 : Int64)) - (((p2.toInt64) &&& (4294967295 : Int64)) / (hi - lo)) * (hi - lo)))), .second, .unset, .unset, .unset] [(.long lo)]))
    refine ownVia (fun _ k => XS.l2i X81.here hx rfl (hb hby at_327) rfl k) ?_
    show ownFin _ _ _ _ _ (T81.setTop (mkF m 328 #[.val (.int p1), .val (.int p2), .val (.ref b1), .val (.int iv), .val (.int (1 : Int32)), .val (.long lo), .second, .val (.long (hi - (1 : Int64))), .second, .val (.long (hi - lo)), .second, .val (.long (lo + (((p2.toInt64) &&& (4294967295 : Int64)) - (((p2.toInt64) &&& (4294967295 : Int64)) / (hi - lo)) * (hi - lo)))), .second, .unset, .unset, .unset] [(.int (lo.toInt32))]))
    refine ownCallS X81 hx hZ hown (hw _ (List.mem_of_getElem? (i := 41) rfl)) (hw _ (List.mem_of_getElem? (i := 42) rfl)) (hw _ (List.mem_of_getElem? (i := 43) rfl)) (hw _ (List.mem_of_getElem? (i := 44) rfl)) (by decide) e81 (own_nchar l Z a0 hw (lo.toInt32) h81 n0 Z0) (by rw [hml]; rfl) [(.int (lo.toInt32))] [] (lenOf own_pd0 rfl) rfl rfl 0 rfl (hb hby at_328) (by decide) (by decide) (by decide) (by decide) ?_
    intro v83 T83 L83 X83 hq83
    obtain ⟨N83q, eq83, r0, rfl, hr0⟩ := hq83
    have N83 := Fr.app N81 N83q
    have e83 : T83.heap = h81 := eq83
    show ownFin _ _ _ _ _ (T83.setTop (mkF m 331 #[.val (.int p1), .val (.int p2), .val (.ref b1), .val (.int iv), .val (.int (1 : Int32)), .val (.long lo), .second, .val (.long (hi - (1 : Int64))), .second, .val (.long (hi - lo)), .second, .val (.long (lo + (((p2.toInt64) &&& (4294967295 : Int64)) - (((p2.toInt64) &&& (4294967295 : Int64)) / (hi - lo)) * (hi - lo)))), .second, .unset, .unset, .unset] [(.int r0)]))
    refine ownVia (fun _ k => XS.istore X83.here hx rfl (hb hby at_331) rfl (l' := #[.val (.int p1), .val (.int p2), .val (.ref b1), .val (.int iv), .val (.int (1 : Int32)), .val (.long lo), .second, .val (.long (hi - (1 : Int64))), .second, .val (.long (hi - lo)), .second, .val (.long (lo + (((p2.toInt64) &&& (4294967295 : Int64)) - (((p2.toInt64) &&& (4294967295 : Int64)) / (hi - lo)) * (hi - lo)))), .second, .val (.int r0), .unset, .unset]) rfl k) ?_
    show ownFin _ _ _ _ _ (T83.setTop (mkF m 333 #[.val (.int p1), .val (.int p2), .val (.ref b1), .val (.int iv), .val (.int (1 : Int32)), .val (.long lo), .second, .val (.long (hi - (1 : Int64))), .second, .val (.long (hi - lo)), .second, .val (.long (lo + (((p2.toInt64) &&& (4294967295 : Int64)) - (((p2.toInt64) &&& (4294967295 : Int64)) / (hi - lo)) * (hi - lo)))), .second, .val (.int r0), .unset, .unset] []))
    refine ownVia (fun _ k => XS.lload X83.here hx rfl (hb hby at_333) rfl k) ?_
    show ownFin _ _ _ _ _ (T83.setTop (mkF m 335 #[.val (.int p1), .val (.int p2), .val (.ref b1), .val (.int iv), .val (.int (1 : Int32)), .val (.long lo), .second, .val (.long (hi - (1 : Int64))), .second, .val (.long (hi - lo)), .second, .val (.long (lo + (((p2.toInt64) &&& (4294967295 : Int64)) - (((p2.toInt64) &&& (4294967295 : Int64)) / (hi - lo)) * (hi - lo)))), .second, .val (.int r0), .unset, .unset] [(.long (hi - (1 : Int64)))]))
    refine ownVia (fun _ k => XS.l2i X83.here hx rfl (hb hby at_335) rfl k) ?_
    show ownFin _ _ _ _ _ (T83.setTop (mkF m 336 #[.val (.int p1), .val (.int p2), .val (.ref b1), .val (.int iv), .val (.int (1 : Int32)), .val (.long lo), .second, .val (.long (hi - (1 : Int64))), .second, .val (.long (hi - lo)), .second, .val (.long (lo + (((p2.toInt64) &&& (4294967295 : Int64)) - (((p2.toInt64) &&& (4294967295 : Int64)) / (hi - lo)) * (hi - lo)))), .second, .val (.int r0), .unset, .unset] [(.int ((hi - (1 : Int64)).toInt32))]))
    refine ownCallS X83 hx hZ hown (hw _ (List.mem_of_getElem? (i := 41) rfl)) (hw _ (List.mem_of_getElem? (i := 42) rfl)) (hw _ (List.mem_of_getElem? (i := 43) rfl)) (hw _ (List.mem_of_getElem? (i := 44) rfl)) (by decide) e83 (own_nchar l Z a0 hw ((hi - (1 : Int64)).toInt32) h81 n0 Z0) (by rw [hml]; rfl) [(.int ((hi - (1 : Int64)).toInt32))] [] (lenOf own_pd0 rfl) rfl rfl 0 rfl (hb hby at_336) (by decide) (by decide) (by decide) (by decide) ?_
    intro v84 T84 L84 X84 hq84
    obtain ⟨N84q, eq84, r1, rfl, hr1⟩ := hq84
    have N84 := Fr.app N83 N84q
    have e84 : T84.heap = h81 := eq84
    show ownFin _ _ _ _ _ (T84.setTop (mkF m 339 #[.val (.int p1), .val (.int p2), .val (.ref b1), .val (.int iv), .val (.int (1 : Int32)), .val (.long lo), .second, .val (.long (hi - (1 : Int64))), .second, .val (.long (hi - lo)), .second, .val (.long (lo + (((p2.toInt64) &&& (4294967295 : Int64)) - (((p2.toInt64) &&& (4294967295 : Int64)) / (hi - lo)) * (hi - lo)))), .second, .val (.int r0), .unset, .unset] [(.int r1)]))
    refine ownVia (fun _ k => XS.istore X84.here hx rfl (hb hby at_339) rfl (l' := #[.val (.int p1), .val (.int p2), .val (.ref b1), .val (.int iv), .val (.int (1 : Int32)), .val (.long lo), .second, .val (.long (hi - (1 : Int64))), .second, .val (.long (hi - lo)), .second, .val (.long (lo + (((p2.toInt64) &&& (4294967295 : Int64)) - (((p2.toInt64) &&& (4294967295 : Int64)) / (hi - lo)) * (hi - lo)))), .second, .val (.int r0), .val (.int r1), .unset]) rfl k) ?_
    show ownFin _ _ _ _ _ (T84.setTop (mkF m 341 #[.val (.int p1), .val (.int p2), .val (.ref b1), .val (.int iv), .val (.int (1 : Int32)), .val (.long lo), .second, .val (.long (hi - (1 : Int64))), .second, .val (.long (hi - lo)), .second, .val (.long (lo + (((p2.toInt64) &&& (4294967295 : Int64)) - (((p2.toInt64) &&& (4294967295 : Int64)) / (hi - lo)) * (hi - lo)))), .second, .val (.int r0), .val (.int r1), .unset] []))
    refine ownVia (fun _ k => XS.lload X84.here hx rfl (hb hby at_341) rfl k) ?_
    show ownFin _ _ _ _ _ (T84.setTop (mkF m 343 #[.val (.int p1), .val (.int p2), .val (.ref b1), .val (.int iv), .val (.int (1 : Int32)), .val (.long lo), .second, .val (.long (hi - (1 : Int64))), .second, .val (.long (hi - lo)), .second, .val (.long (lo + (((p2.toInt64) &&& (4294967295 : Int64)) - (((p2.toInt64) &&& (4294967295 : Int64)) / (hi - lo)) * (hi - lo)))), .second, .val (.int r0), .val (.int r1), .unset] [(.long (lo + (((p2.toInt64) &&& (4294967295 : Int64)) - (((p2.toInt64) &&& (4294967295 : Int64)) / (hi - lo)) * (hi - lo))))]))
    refine ownVia (fun _ k => XS.l2i X84.here hx rfl (hb hby at_343) rfl k) ?_
    show ownFin _ _ _ _ _ (T84.setTop (mkF m 344 #[.val (.int p1), .val (.int p2), .val (.ref b1), .val (.int iv), .val (.int (1 : Int32)), .val (.long lo), .second, .val (.long (hi - (1 : Int64))), .second, .val (.long (hi - lo)), .second, .val (.long (lo + (((p2.toInt64) &&& (4294967295 : Int64)) - (((p2.toInt64) &&& (4294967295 : Int64)) / (hi - lo)) * (hi - lo)))), .second, .val (.int r0), .val (.int r1), .unset] [(.int ((lo + (((p2.toInt64) &&& (4294967295 : Int64)) - (((p2.toInt64) &&& (4294967295 : Int64)) / (hi - lo)) * (hi - lo))).toInt32))]))
    refine ownCallS X84 hx hZ hown (hw _ (List.mem_of_getElem? (i := 41) rfl)) (hw _ (List.mem_of_getElem? (i := 42) rfl)) (hw _ (List.mem_of_getElem? (i := 43) rfl)) (hw _ (List.mem_of_getElem? (i := 44) rfl)) (by decide) e84 (own_nchar l Z a0 hw ((lo + (((p2.toInt64) &&& (4294967295 : Int64)) - (((p2.toInt64) &&& (4294967295 : Int64)) / (hi - lo)) * (hi - lo))).toInt32) h81 n0 Z0) (by rw [hml]; rfl) [(.int ((lo + (((p2.toInt64) &&& (4294967295 : Int64)) - (((p2.toInt64) &&& (4294967295 : Int64)) / (hi - lo)) * (hi - lo))).toInt32))] [] (lenOf own_pd0 rfl) rfl rfl 0 rfl (hb hby at_344) (by decide) (by decide) (by decide) (by decide) ?_
    intro v85 T85 L85 X85 hq85
    obtain ⟨N85q, eq85, r2, rfl, hr2⟩ := hq85
    have N85 := Fr.app N84 N85q
    have e85 : T85.heap = h81 := eq85
    show ownFin _ _ _ _ _ (T85.setTop (mkF m 347 #[.val (.int p1), .val (.int p2), .val (.ref b1), .val (.int iv), .val (.int (1 : Int32)), .val (.long lo), .second, .val (.long (hi - (1 : Int64))), .second, .val (.long (hi - lo)), .second, .val (.long (lo + (((p2.toInt64) &&& (4294967295 : Int64)) - (((p2.toInt64) &&& (4294967295 : Int64)) / (hi - lo)) * (hi - lo)))), .second, .val (.int r0), .val (.int r1), .unset] [(.int r2)]))
    refine ownVia (fun _ k => XS.istore X85.here hx rfl (hb hby at_347) rfl (l' := #[.val (.int p1), .val (.int p2), .val (.ref b1), .val (.int iv), .val (.int (1 : Int32)), .val (.long lo), .second, .val (.long (hi - (1 : Int64))), .second, .val (.long (hi - lo)), .second, .val (.long (lo + (((p2.toInt64) &&& (4294967295 : Int64)) - (((p2.toInt64) &&& (4294967295 : Int64)) / (hi - lo)) * (hi - lo)))), .second, .val (.int r0), .val (.int r1), .val (.int r2)]) rfl k) ?_
    show ownFin _ _ _ _ _ (T85.setTop (mkF m 349 #[.val (.int p1), .val (.int p2), .val (.ref b1), .val (.int iv), .val (.int (1 : Int32)), .val (.long lo), .second, .val (.long (hi - (1 : Int64))), .second, .val (.long (hi - lo)), .second, .val (.long (lo + (((p2.toInt64) &&& (4294967295 : Int64)) - (((p2.toInt64) &&& (4294967295 : Int64)) / (hi - lo)) * (hi - lo)))), .second, .val (.int r0), .val (.int r1), .val (.int r2)] []))
    refine ownVia (fun _ k => XS.iload X85.here hx rfl (hb hby at_349) rfl k) ?_
    show ownFin _ _ _ _ _ (T85.setTop (mkF m 351 #[.val (.int p1), .val (.int p2), .val (.ref b1), .val (.int iv), .val (.int (1 : Int32)), .val (.long lo), .second, .val (.long (hi - (1 : Int64))), .second, .val (.long (hi - lo)), .second, .val (.long (lo + (((p2.toInt64) &&& (4294967295 : Int64)) - (((p2.toInt64) &&& (4294967295 : Int64)) / (hi - lo)) * (hi - lo)))), .second, .val (.int r0), .val (.int r1), .val (.int r2)] [(.int r0)]))
    refine ownVia (fun _ k => XS.iload X85.here hx rfl (hb hby at_351) rfl k) ?_
    show ownFin _ _ _ _ _ (T85.setTop (mkF m 353 #[.val (.int p1), .val (.int p2), .val (.ref b1), .val (.int iv), .val (.int (1 : Int32)), .val (.long lo), .second, .val (.long (hi - (1 : Int64))), .second, .val (.long (hi - lo)), .second, .val (.long (lo + (((p2.toInt64) &&& (4294967295 : Int64)) - (((p2.toInt64) &&& (4294967295 : Int64)) / (hi - lo)) * (hi - lo)))), .second, .val (.int r0), .val (.int r1), .val (.int r2)] [(.int (1 : Int32)), (.int r0)]))
    rw [← h_lo, ← h_hi] at cc
    rw [← h_lo] at hr0
    rw [← h_hi] at hr1
    rw [← h_lo, ← h_hi] at hr2
    refine ownVia (fun _ k => XS.icmpNo X85.here hx rfl (hb hby at_353) rfl (teq (own_at hn37 (Int.le_refl _) ok.2.1 (Or.inl ⟨rfl, by omega⟩) hr0)).2 k) ?_
    show ownFin _ _ _ _ _ (T85.setTop (mkF m 356 #[.val (.int p1), .val (.int p2), .val (.ref b1), .val (.int iv), .val (.int (1 : Int32)), .val (.long lo), .second, .val (.long (hi - (1 : Int64))), .second, .val (.long (hi - lo)), .second, .val (.long (lo + (((p2.toInt64) &&& (4294967295 : Int64)) - (((p2.toInt64) &&& (4294967295 : Int64)) / (hi - lo)) * (hi - lo)))), .second, .val (.int r0), .val (.int r1), .val (.int r2)] []))
    refine ownVia (fun _ k => XS.iload X85.here hx rfl (hb hby at_356) rfl k) ?_
    show ownFin _ _ _ _ _ (T85.setTop (mkF m 358 #[.val (.int p1), .val (.int p2), .val (.ref b1), .val (.int iv), .val (.int (1 : Int32)), .val (.long lo), .second, .val (.long (hi - (1 : Int64))), .second, .val (.long (hi - lo)), .second, .val (.long (lo + (((p2.toInt64) &&& (4294967295 : Int64)) - (((p2.toInt64) &&& (4294967295 : Int64)) / (hi - lo)) * (hi - lo)))), .second, .val (.int r0), .val (.int r1), .val (.int r2)] [(.int r1)]))
    refine ownVia (fun _ k => XS.iload X85.here hx rfl (hb hby at_358) rfl k) ?_
    show ownFin _ _ _ _ _ (T85.setTop (mkF m 360 #[.val (.int p1), .val (.int p2), .val (.ref b1), .val (.int iv), .val (.int (1 : Int32)), .val (.long lo), .second, .val (.long (hi - (1 : Int64))), .second, .val (.long (hi - lo)), .second, .val (.long (lo + (((p2.toInt64) &&& (4294967295 : Int64)) - (((p2.toInt64) &&& (4294967295 : Int64)) / (hi - lo)) * (hi - lo)))), .second, .val (.int r0), .val (.int r1), .val (.int r2)] [(.int (1 : Int32)), (.int r1)]))
    refine ownVia (fun _ k => XS.icmpNo X85.here hx rfl (hb hby at_360) rfl (teq (own_at hn37 cc.2.1 cc.2.2.1 (Or.inl ⟨rfl, by omega⟩) hr1)).2 k) ?_
    show ownFin _ _ _ _ _ (T85.setTop (mkF m 363 #[.val (.int p1), .val (.int p2), .val (.ref b1), .val (.int iv), .val (.int (1 : Int32)), .val (.long lo), .second, .val (.long (hi - (1 : Int64))), .second, .val (.long (hi - lo)), .second, .val (.long (lo + (((p2.toInt64) &&& (4294967295 : Int64)) - (((p2.toInt64) &&& (4294967295 : Int64)) / (hi - lo)) * (hi - lo)))), .second, .val (.int r0), .val (.int r1), .val (.int r2)] []))
    refine ownVia (fun _ k => XS.iload X85.here hx rfl (hb hby at_363) rfl k) ?_
    show ownFin _ _ _ _ _ (T85.setTop (mkF m 365 #[.val (.int p1), .val (.int p2), .val (.ref b1), .val (.int iv), .val (.int (1 : Int32)), .val (.long lo), .second, .val (.long (hi - (1 : Int64))), .second, .val (.long (hi - lo)), .second, .val (.long (lo + (((p2.toInt64) &&& (4294967295 : Int64)) - (((p2.toInt64) &&& (4294967295 : Int64)) / (hi - lo)) * (hi - lo)))), .second, .val (.int r0), .val (.int r1), .val (.int r2)] [(.int r2)]))
    refine ownVia (fun _ k => XS.iload X85.here hx rfl (hb hby at_365) rfl k) ?_
    show ownFin _ _ _ _ _ (T85.setTop (mkF m 367 #[.val (.int p1), .val (.int p2), .val (.ref b1), .val (.int iv), .val (.int (1 : Int32)), .val (.long lo), .second, .val (.long (hi - (1 : Int64))), .second, .val (.long (hi - lo)), .second, .val (.long (lo + (((p2.toInt64) &&& (4294967295 : Int64)) - (((p2.toInt64) &&& (4294967295 : Int64)) / (hi - lo)) * (hi - lo)))), .second, .val (.int r0), .val (.int r1), .val (.int r2)] [(.int (1 : Int32)), (.int r2)]))
    refine ownVia (fun _ k => XS.icmpNo X85.here hx rfl (hb hby at_367) rfl (teq (own_at hn37 cc.2.2.2.1 cc.2.2.2.2 (Or.inl ⟨rfl, by omega⟩) hr2)).2 k) ?_
    show ownFin _ _ _ _ _ (T85.setTop (mkF m 370 #[.val (.int p1), .val (.int p2), .val (.ref b1), .val (.int iv), .val (.int (1 : Int32)), .val (.long lo), .second, .val (.long (hi - (1 : Int64))), .second, .val (.long (hi - lo)), .second, .val (.long (lo + (((p2.toInt64) &&& (4294967295 : Int64)) - (((p2.toInt64) &&& (4294967295 : Int64)) / (hi - lo)) * (hi - lo)))), .second, .val (.int r0), .val (.int r1), .val (.int r2)] []))
    refine ownVia (fun _ k => XS.iconst X85.here hx rfl (hb hby at_370) k) ?_
    show ownFin _ _ _ _ _ (T85.setTop (mkF m 371 #[.val (.int p1), .val (.int p2), .val (.ref b1), .val (.int iv), .val (.int (1 : Int32)), .val (.long lo), .second, .val (.long (hi - (1 : Int64))), .second, .val (.long (hi - lo)), .second, .val (.long (lo + (((p2.toInt64) &&& (4294967295 : Int64)) - (((p2.toInt64) &&& (4294967295 : Int64)) / (hi - lo)) * (hi - lo)))), .second, .val (.int r0), .val (.int r1), .val (.int r2)] [(.int (1 : Int32))]))
    refine ownVia (fun _ k => XS.goto X85.here hx rfl (pc0 := 371) (pc' := 375) rfl (hb hby at_371) (by decide) (by decide) k) ?_
    show ownFin _ _ _ _ _ (T85.setTop (mkF m 375 #[.val (.int p1), .val (.int p2), .val (.ref b1), .val (.int iv), .val (.int (1 : Int32)), .val (.long lo), .second, .val (.long (hi - (1 : Int64))), .second, .val (.long (hi - lo)), .second, .val (.long (lo + (((p2.toInt64) &&& (4294967295 : Int64)) - (((p2.toInt64) &&& (4294967295 : Int64)) / (hi - lo)) * (hi - lo)))), .second, .val (.int r0), .val (.int r1), .val (.int r2)] [(.int (1 : Int32))]))
    refine ownRetZ X85 hx hlk hret (hb hby at_375) (by decide) (by decide) (Or.inr rfl) ?_
    show (Q_own_law Z p1 p2 h0 n0 ) (some (.int (1 : Int32))) T85.heap _
    rw [e85]
    exact ⟨rfl, N85⟩
  case neg =>
    have hc82I : ¬ (iv &&& (1 : Int32)).toInt = 1 := fun q => hc82 ((own_eqi rfl (by decide)).mpr q)
    refine ownVia (fun _ k => XS.icmpYes X81.here hx rfl (pc0 := 277) (pc' := 284) rfl (hb hby at_277) rfl (feq hc82).2 (by decide) (by decide) k) ?_
    show ownFin _ _ _ _ _ (T81.setTop (mkF m 284 #[.val (.int p1), .val (.int p2), .val (.ref b1), .val (.int iv), .unset, .unset, .unset, .unset, .unset, .unset, .unset, .unset, .unset, .unset, .unset, .unset] []))
    refine ownVia (fun _ k => XS.iconst X81.here hx rfl (hb hby at_284) k) ?_
    show ownFin _ _ _ _ _ (T81.setTop (mkF m 285 #[.val (.int p1), .val (.int p2), .val (.ref b1), .val (.int iv), .unset, .unset, .unset, .unset, .unset, .unset, .unset, .unset, .unset, .unset, .unset, .unset] [(.int (0 : Int32))]))
    refine ownVia (fun _ k => XS.istore X81.here hx rfl (hb hby at_285) rfl (l' := #[.val (.int p1), .val (.int p2), .val (.ref b1), .val (.int iv), .val (.int (0 : Int32)), .unset, .unset, .unset, .unset, .unset, .unset, .unset, .unset, .unset, .unset, .unset]) rfl k) ?_
    show ownFin _ _ _ _ _ (T81.setTop (mkF m 287 #[.val (.int p1), .val (.int p2), .val (.ref b1), .val (.int iv), .val (.int (0 : Int32)), .unset, .unset, .unset, .unset, .unset, .unset, .unset, .unset, .unset, .unset, .unset] []))
    refine ownVia (fun _ k => XS.aloadN X81.here hx rfl (hb hby at_287) rfl rfl k) ?_
    show ownFin _ _ _ _ _ (T81.setTop (mkF m 288 #[.val (.int p1), .val (.int p2), .val (.ref b1), .val (.int iv), .val (.int (0 : Int32)), .unset, .unset, .unset, .unset, .unset, .unset, .unset, .unset, .unset, .unset, .unset] [(.ref b1)]))
    refine ownVia (fun _ k => XS.iloadN X81.here hx rfl (hb hby at_288) rfl k) ?_
    show ownFin _ _ _ _ _ (T81.setTop (mkF m 289 #[.val (.int p1), .val (.int p2), .val (.ref b1), .val (.int iv), .val (.int (0 : Int32)), .unset, .unset, .unset, .unset, .unset, .unset, .unset, .unset, .unset, .unset, .unset] [(.int iv), (.ref b1)]))
    refine ownLaload X81 hx hZ e81 A_b1 (own_idx (by decide : (38 : Int32).toInt = 38) hiv.1 (by omega)) (v := (.long (own_b n))) (by rw [hc0]; exact own_getD_map Value.long 0 own_btab _) (hb hby at_289) ?_
    show ownFin _ _ _ _ _ (T81.setTop (mkF m 290 #[.val (.int p1), .val (.int p2), .val (.ref b1), .val (.int iv), .val (.int (0 : Int32)), .unset, .unset, .unset, .unset, .unset, .unset, .unset, .unset, .unset, .unset, .unset] [(.long (own_b n))]))
    refine ownVia (fun _ k => XS.lstore X81.here hx rfl (hb hby at_290) rfl (l' := #[.val (.int p1), .val (.int p2), .val (.ref b1), .val (.int iv), .val (.int (0 : Int32)), .val (.long (own_b n)), .second, .unset, .unset, .unset, .unset, .unset, .unset, .unset, .unset, .unset]) rfl k) ?_
    show ownFin _ _ _ _ _ (T81.setTop (mkF m 292 #[.val (.int p1), .val (.int p2), .val (.ref b1), .val (.int iv), .val (.int (0 : Int32)), .val (.long (own_b n)), .second, .unset, .unset, .unset, .unset, .unset, .unset, .unset, .unset, .unset] []))
    refine ownVia (fun _ k => XS.aloadN X81.here hx rfl (hb hby at_292) rfl rfl k) ?_
    show ownFin _ _ _ _ _ (T81.setTop (mkF m 293 #[.val (.int p1), .val (.int p2), .val (.ref b1), .val (.int iv), .val (.int (0 : Int32)), .val (.long (own_b n)), .second, .unset, .unset, .unset, .unset, .unset, .unset, .unset, .unset, .unset] [(.ref b1)]))
    refine ownVia (fun _ k => XS.iloadN X81.here hx rfl (hb hby at_293) rfl k) ?_
    show ownFin _ _ _ _ _ (T81.setTop (mkF m 294 #[.val (.int p1), .val (.int p2), .val (.ref b1), .val (.int iv), .val (.int (0 : Int32)), .val (.long (own_b n)), .second, .unset, .unset, .unset, .unset, .unset, .unset, .unset, .unset, .unset] [(.int iv), (.ref b1)]))
    refine ownVia (fun _ k => XS.iconst X81.here hx rfl (hb hby at_294) k) ?_
    show ownFin _ _ _ _ _ (T81.setTop (mkF m 295 #[.val (.int p1), .val (.int p2), .val (.ref b1), .val (.int iv), .val (.int (0 : Int32)), .val (.long (own_b n)), .second, .unset, .unset, .unset, .unset, .unset, .unset, .unset, .unset, .unset] [(.int (1 : Int32)), (.int iv), (.ref b1)]))
    refine ownVia (fun _ k => XS.iadd X81.here hx rfl (hb hby at_295) rfl k) ?_
    show ownFin _ _ _ _ _ (T81.setTop (mkF m 296 #[.val (.int p1), .val (.int p2), .val (.ref b1), .val (.int iv), .val (.int (0 : Int32)), .val (.long (own_b n)), .second, .unset, .unset, .unset, .unset, .unset, .unset, .unset, .unset, .unset] [(.int (iv + (1 : Int32))), (.ref b1)]))
    refine ownLaload X81 hx hZ e81 A_b1 (own_idx (by decide : (38 : Int32).toInt = 38) (by omega) (by omega)) (v := (.long (own_b (n + 1)))) (by rw [hc1]; exact own_getD_map Value.long 0 own_btab _) (hb hby at_296) ?_
    show ownFin _ _ _ _ _ (T81.setTop (mkF m 297 #[.val (.int p1), .val (.int p2), .val (.ref b1), .val (.int iv), .val (.int (0 : Int32)), .val (.long (own_b n)), .second, .unset, .unset, .unset, .unset, .unset, .unset, .unset, .unset, .unset] [(.long (own_b (n + 1)))]))
    refine ownVia (fun _ k => XS.lconst X81.here hx rfl (hb hby at_297) k) ?_
    show ownFin _ _ _ _ _ (T81.setTop (mkF m 298 #[.val (.int p1), .val (.int p2), .val (.ref b1), .val (.int iv), .val (.int (0 : Int32)), .val (.long (own_b n)), .second, .unset, .unset, .unset, .unset, .unset, .unset, .unset, .unset, .unset] [(.long (1 : Int64)), (.long (own_b (n + 1)))]))
    refine ownVia (fun _ k => XS.lsub X81.here hx rfl (hb hby at_298) rfl k) ?_
    show ownFin _ _ _ _ _ (T81.setTop (mkF m 299 #[.val (.int p1), .val (.int p2), .val (.ref b1), .val (.int iv), .val (.int (0 : Int32)), .val (.long (own_b n)), .second, .unset, .unset, .unset, .unset, .unset, .unset, .unset, .unset, .unset] [(.long ((own_b (n + 1)) - (1 : Int64)))]))
    refine ownVia (fun _ k => XS.lstore X81.here hx rfl (hb hby at_299) rfl (l' := #[.val (.int p1), .val (.int p2), .val (.ref b1), .val (.int iv), .val (.int (0 : Int32)), .val (.long (own_b n)), .second, .val (.long ((own_b (n + 1)) - (1 : Int64))), .second, .unset, .unset, .unset, .unset, .unset, .unset, .unset]) rfl k) ?_
    show ownFin _ _ _ _ _ (T81.setTop (mkF m 301 #[.val (.int p1), .val (.int p2), .val (.ref b1), .val (.int iv), .val (.int (0 : Int32)), .val (.long (own_b n)), .second, .val (.long ((own_b (n + 1)) - (1 : Int64))), .second, .unset, .unset, .unset, .unset, .unset, .unset, .unset] []))
    refine ownVia (fun _ k => XS.aloadN X81.here hx rfl (hb hby at_301) rfl rfl k) ?_
    show ownFin _ _ _ _ _ (T81.setTop (mkF m 302 #[.val (.int p1), .val (.int p2), .val (.ref b1), .val (.int iv), .val (.int (0 : Int32)), .val (.long (own_b n)), .second, .val (.long ((own_b (n + 1)) - (1 : Int64))), .second, .unset, .unset, .unset, .unset, .unset, .unset, .unset] [(.ref b1)]))
    refine ownVia (fun _ k => XS.iloadN X81.here hx rfl (hb hby at_302) rfl k) ?_
    show ownFin _ _ _ _ _ (T81.setTop (mkF m 303 #[.val (.int p1), .val (.int p2), .val (.ref b1), .val (.int iv), .val (.int (0 : Int32)), .val (.long (own_b n)), .second, .val (.long ((own_b (n + 1)) - (1 : Int64))), .second, .unset, .unset, .unset, .unset, .unset, .unset, .unset] [(.int iv), (.ref b1)]))
    refine ownVia (fun _ k => XS.iconst X81.here hx rfl (hb hby at_303) k) ?_
    show ownFin _ _ _ _ _ (T81.setTop (mkF m 304 #[.val (.int p1), .val (.int p2), .val (.ref b1), .val (.int iv), .val (.int (0 : Int32)), .val (.long (own_b n)), .second, .val (.long ((own_b (n + 1)) - (1 : Int64))), .second, .unset, .unset, .unset, .unset, .unset, .unset, .unset] [(.int (1 : Int32)), (.int iv), (.ref b1)]))
    refine ownVia (fun _ k => XS.iadd X81.here hx rfl (hb hby at_304) rfl k) ?_
    show ownFin _ _ _ _ _ (T81.setTop (mkF m 305 #[.val (.int p1), .val (.int p2), .val (.ref b1), .val (.int iv), .val (.int (0 : Int32)), .val (.long (own_b n)), .second, .val (.long ((own_b (n + 1)) - (1 : Int64))), .second, .unset, .unset, .unset, .unset, .unset, .unset, .unset] [(.int (iv + (1 : Int32))), (.ref b1)]))
    refine ownLaload X81 hx hZ e81 A_b1 (own_idx (by decide : (38 : Int32).toInt = 38) (by omega) (by omega)) (v := (.long (own_b (n + 1)))) (by rw [hc1]; exact own_getD_map Value.long 0 own_btab _) (hb hby at_305) ?_
    show ownFin _ _ _ _ _ (T81.setTop (mkF m 306 #[.val (.int p1), .val (.int p2), .val (.ref b1), .val (.int iv), .val (.int (0 : Int32)), .val (.long (own_b n)), .second, .val (.long ((own_b (n + 1)) - (1 : Int64))), .second, .unset, .unset, .unset, .unset, .unset, .unset, .unset] [(.long (own_b (n + 1)))]))
    refine ownVia (fun _ k => XS.lload X81.here hx rfl (hb hby at_306) rfl k) ?_
    show ownFin _ _ _ _ _ (T81.setTop (mkF m 308 #[.val (.int p1), .val (.int p2), .val (.ref b1), .val (.int iv), .val (.int (0 : Int32)), .val (.long (own_b n)), .second, .val (.long ((own_b (n + 1)) - (1 : Int64))), .second, .unset, .unset, .unset, .unset, .unset, .unset, .unset] [(.long (own_b n)), (.long (own_b (n + 1)))]))
    refine ownVia (fun _ k => XS.lsub X81.here hx rfl (hb hby at_308) rfl k) ?_
    show ownFin _ _ _ _ _ (T81.setTop (mkF m 309 #[.val (.int p1), .val (.int p2), .val (.ref b1), .val (.int iv), .val (.int (0 : Int32)), .val (.long (own_b n)), .second, .val (.long ((own_b (n + 1)) - (1 : Int64))), .second, .unset, .unset, .unset, .unset, .unset, .unset, .unset] [(.long ((own_b (n + 1)) - (own_b n)))]))
    refine ownVia (fun _ k => XS.lstore X81.here hx rfl (hb hby at_309) rfl (l' := #[.val (.int p1), .val (.int p2), .val (.ref b1), .val (.int iv), .val (.int (0 : Int32)), .val (.long (own_b n)), .second, .val (.long ((own_b (n + 1)) - (1 : Int64))), .second, .val (.long ((own_b (n + 1)) - (own_b n))), .second, .unset, .unset, .unset, .unset, .unset]) rfl k) ?_
    show ownFin _ _ _ _ _ (T81.setTop (mkF m 311 #[.val (.int p1), .val (.int p2), .val (.ref b1), .val (.int iv), .val (.int (0 : Int32)), .val (.long (own_b n)), .second, .val (.long ((own_b (n + 1)) - (1 : Int64))), .second, .val (.long ((own_b (n + 1)) - (own_b n))), .second, .unset, .unset, .unset, .unset, .unset] []))
    refine ownVia (fun _ k => XS.lload X81.here hx rfl (hb hby at_311) rfl k) ?_
    show ownFin _ _ _ _ _ (T81.setTop (mkF m 313 #[.val (.int p1), .val (.int p2), .val (.ref b1), .val (.int iv), .val (.int (0 : Int32)), .val (.long (own_b n)), .second, .val (.long ((own_b (n + 1)) - (1 : Int64))), .second, .val (.long ((own_b (n + 1)) - (own_b n))), .second, .unset, .unset, .unset, .unset, .unset] [(.long (own_b n))]))
    refine ownVia (fun _ k => XS.iloadN X81.here hx rfl (hb hby at_313) rfl k) ?_
    show ownFin _ _ _ _ _ (T81.setTop (mkF m 314 #[.val (.int p1), .val (.int p2), .val (.ref b1), .val (.int iv), .val (.int (0 : Int32)), .val (.long (own_b n)), .second, .val (.long ((own_b (n + 1)) - (1 : Int64))), .second, .val (.long ((own_b (n + 1)) - (own_b n))), .second, .unset, .unset, .unset, .unset, .unset] [(.int p2), (.long (own_b n))]))
    refine ownVia (fun _ k => XS.i2l X81.here hx rfl (hb hby at_314) rfl k) ?_
    show ownFin _ _ _ _ _ (T81.setTop (mkF m 315 #[.val (.int p1), .val (.int p2), .val (.ref b1), .val (.int iv), .val (.int (0 : Int32)), .val (.long (own_b n)), .second, .val (.long ((own_b (n + 1)) - (1 : Int64))), .second, .val (.long ((own_b (n + 1)) - (own_b n))), .second, .unset, .unset, .unset, .unset, .unset] [(.long (p2.toInt64)), (.long (own_b n))]))
    refine ownVia (fun _ k => X81.ldc2Long hx hown (mvT hZ (hw _ (List.mem_of_getElem? (i := 40) rfl))) (g := (mkF m 315 #[.val (.int p1), .val (.int p2), .val (.ref b1), .val (.int iv), .val (.int (0 : Int32)), .val (.long (own_b n)), .second, .val (.long ((own_b (n + 1)) - (1 : Int64))), .second, .val (.long ((own_b (n + 1)) - (own_b n))), .second, .unset, .unset, .unset, .unset, .unset] [(.long (p2.toInt64)), (.long (own_b n))])) rfl (hb hby at_315) _ k) ?_
    show ownFin _ _ _ _ _ (T81.setTop (mkF m 318 #[.val (.int p1), .val (.int p2), .val (.ref b1), .val (.int iv), .val (.int (0 : Int32)), .val (.long (own_b n)), .second, .val (.long ((own_b (n + 1)) - (1 : Int64))), .second, .val (.long ((own_b (n + 1)) - (own_b n))), .second, .unset, .unset, .unset, .unset, .unset] [(.long (4294967295 : Int64)), (.long (p2.toInt64)), (.long (own_b n))]))
    refine ownVia (fun _ k => XS.land X81.here hx rfl (hb hby at_318) rfl k) ?_
    show ownFin _ _ _ _ _ (T81.setTop (mkF m 319 #[.val (.int p1), .val (.int p2), .val (.ref b1), .val (.int iv), .val (.int (0 : Int32)), .val (.long (own_b n)), .second, .val (.long ((own_b (n + 1)) - (1 : Int64))), .second, .val (.long ((own_b (n + 1)) - (own_b n))), .second, .unset, .unset, .unset, .unset, .unset] [(.long ((p2.toInt64) &&& (4294967295 : Int64))), (.long (own_b n))]))
    refine ownVia (fun _ k => XS.lload X81.here hx rfl (hb hby at_319) rfl k) ?_
    show ownFin _ _ _ _ _ (T81.setTop (mkF m 321 #[.val (.int p1), .val (.int p2), .val (.ref b1), .val (.int iv), .val (.int (0 : Int32)), .val (.long (own_b n)), .second, .val (.long ((own_b (n + 1)) - (1 : Int64))), .second, .val (.long ((own_b (n + 1)) - (own_b n))), .second, .unset, .unset, .unset, .unset, .unset] [(.long ((own_b (n + 1)) - (own_b n))), (.long ((p2.toInt64) &&& (4294967295 : Int64))), (.long (own_b n))]))
    have ok := own_bok n hn37
    generalize h_lo : (own_b n) = lo
    show ownFin _ _ _ _ _ (T81.setTop (mkF m 321 #[.val (.int p1), .val (.int p2), .val (.ref b1), .val (.int iv), .val (.int (0 : Int32)), .val (.long lo), .second, .val (.long ((own_b (n + 1)) - (1 : Int64))), .second, .val (.long ((own_b (n + 1)) - lo)), .second, .unset, .unset, .unset, .unset, .unset] [(.long ((own_b (n + 1)) - lo)), (.long ((p2.toInt64) &&& (4294967295 : Int64))), (.long lo)]))
    generalize h_hi : (own_b (n + 1)) = hi
    show ownFin _ _ _ _ _ (T81.setTop (mkF m 321 #[.val (.int p1), .val (.int p2), .val (.ref b1), .val (.int iv), .val (.int (0 : Int32)), .val (.long lo), .second, .val (.long (hi - (1 : Int64))), .second, .val (.long (hi - lo)), .second, .unset, .unset, .unset, .unset, .unset] [(.long (hi - lo)), (.long ((p2.toInt64) &&& (4294967295 : Int64))), (.long lo)]))
    have cc := own_cc hn37 p2 h_lo.symm h_hi.symm
    refine ownVia (fun _ k => XS.lrem X81.here hx rfl (hb hby at_321) rfl cc.1 k) ?_
    show ownFin _ _ _ _ _ (T81.setTop (mkF m 322 #[.val (.int p1), .val (.int p2), .val (.ref b1), .val (.int iv), .val (.int (0 : Int32)), .val (.long lo), .second, .val (.long (hi - (1 : Int64))), .second, .val (.long (hi - lo)), .second, .unset, .unset, .unset, .unset, .unset] [(.long (((p2.toInt64) &&& (4294967295 : Int64)) - (((p2.toInt64) &&& (4294967295 : Int64)) / (hi - lo)) * (hi - lo))), (.long lo)]))
    refine ownVia (fun _ k => XS.ladd X81.here hx rfl (hb hby at_322) rfl k) ?_
    show ownFin _ _ _ _ _ (T81.setTop (mkF m 323 #[.val (.int p1), .val (.int p2), .val (.ref b1), .val (.int iv), .val (.int (0 : Int32)), .val (.long lo), .second, .val (.long (hi - (1 : Int64))), .second, .val (.long (hi - lo)), .second, .unset, .unset, .unset, .unset, .unset] [(.long (lo + (((p2.toInt64) &&& (4294967295 : Int64)) - (((p2.toInt64) &&& (4294967295 : Int64)) / (hi - lo)) * (hi - lo))))]))
    refine ownVia (fun _ k => XS.lstore X81.here hx rfl (hb hby at_323) rfl (l' := #[.val (.int p1), .val (.int p2), .val (.ref b1), .val (.int iv), .val (.int (0 : Int32)), .val (.long lo), .second, .val (.long (hi - (1 : Int64))), .second, .val (.long (hi - lo)), .second, .val (.long (lo + (((p2.toInt64) &&& (4294967295 : Int64)) - (((p2.toInt64) &&& (4294967295 : Int64)) / (hi - lo)) * (hi - lo)))), .second, .unset, .unset, .unset]) rfl k) ?_
    show ownFin _ _ _ _ _ (T81.setTop (mkF m 325 #[.val (.int p1), .val (.int p2), .val (.ref b1), .val (.int iv), .val (.int (0 : Int32)), .val (.long lo), .second, .val (.long (hi - (1 : Int64))), .second, .val (.long (hi - lo)), .second, .val (.long (lo + (((p2.toInt64) &&& (4294967295 : Int64)) - (((p2.toInt64) &&& (4294967295 : Int64)) / (hi - lo)) * (hi - lo)))), .second, .unset, .unset, .unset] []))
    refine ownVia (fun _ k => XS.lload X81.here hx rfl (hb hby at_325) rfl k) ?_
    show ownFin _ _ _ _ _ (T81.setTop (mkF m 327 #[.val (.int p1), .val (.int p2), .val (.ref b1), .val (.int iv), .val (.int (0 : Int32)), .val (.long lo), .second, .val (.long (hi - (1 : Int64))), .second, .val (.long (hi - lo)), .second, .val (.long (lo + (((p2.toInt64) &&& (4294967295 : Int64)) - (((p2.toInt64) &&& (4294967295 : Int64)) / (hi - lo)) * (hi - lo)))), .second, .unset, .unset, .unset] [(.long lo)]))
    refine ownVia (fun _ k => XS.l2i X81.here hx rfl (hb hby at_327) rfl k) ?_
    show ownFin _ _ _ _ _ (T81.setTop (mkF m 328 #[.val (.int p1), .val (.int p2), .val (.ref b1), .val (.int iv), .val (.int (0 : Int32)), .val (.long lo), .second, .val (.long (hi - (1 : Int64))), .second, .val (.long (hi - lo)), .second, .val (.long (lo + (((p2.toInt64) &&& (4294967295 : Int64)) - (((p2.toInt64) &&& (4294967295 : Int64)) / (hi - lo)) * (hi - lo)))), .second, .unset, .unset, .unset] [(.int (lo.toInt32))]))
    refine ownCallS X81 hx hZ hown (hw _ (List.mem_of_getElem? (i := 41) rfl)) (hw _ (List.mem_of_getElem? (i := 42) rfl)) (hw _ (List.mem_of_getElem? (i := 43) rfl)) (hw _ (List.mem_of_getElem? (i := 44) rfl)) (by decide) e81 (own_nchar l Z a0 hw (lo.toInt32) h81 n0 Z0) (by rw [hml]; rfl) [(.int (lo.toInt32))] [] (lenOf own_pd0 rfl) rfl rfl 0 rfl (hb hby at_328) (by decide) (by decide) (by decide) (by decide) ?_
    intro v86 T86 L86 X86 hq86
    obtain ⟨N86q, eq86, r0, rfl, hr0⟩ := hq86
    have N86 := Fr.app N81 N86q
    have e86 : T86.heap = h81 := eq86
    show ownFin _ _ _ _ _ (T86.setTop (mkF m 331 #[.val (.int p1), .val (.int p2), .val (.ref b1), .val (.int iv), .val (.int (0 : Int32)), .val (.long lo), .second, .val (.long (hi - (1 : Int64))), .second, .val (.long (hi - lo)), .second, .val (.long (lo + (((p2.toInt64) &&& (4294967295 : Int64)) - (((p2.toInt64) &&& (4294967295 : Int64)) / (hi - lo)) * (hi - lo)))), .second, .unset, .unset, .unset] [(.int r0)]))
    refine ownVia (fun _ k => XS.istore X86.here hx rfl (hb hby at_331) rfl (l' := #[.val (.int p1), .val (.int p2), .val (.ref b1), .val (.int iv), .val (.int (0 : Int32)), .val (.long lo), .second, .val (.long (hi - (1 : Int64))), .second, .val (.long (hi - lo)), .second, .val (.long (lo + (((p2.toInt64) &&& (4294967295 : Int64)) - (((p2.toInt64) &&& (4294967295 : Int64)) / (hi - lo)) * (hi - lo)))), .second, .val (.int r0), .unset, .unset]) rfl k) ?_
    show ownFin _ _ _ _ _ (T86.setTop (mkF m 333 #[.val (.int p1), .val (.int p2), .val (.ref b1), .val (.int iv), .val (.int (0 : Int32)), .val (.long lo), .second, .val (.long (hi - (1 : Int64))), .second, .val (.long (hi - lo)), .second, .val (.long (lo + (((p2.toInt64) &&& (4294967295 : Int64)) - (((p2.toInt64) &&& (4294967295 : Int64)) / (hi - lo)) * (hi - lo)))), .second, .val (.int r0), .unset, .unset] []))
    refine ownVia (fun _ k => XS.lload X86.here hx rfl (hb hby at_333) rfl k) ?_
    show ownFin _ _ _ _ _ (T86.setTop (mkF m 335 #[.val (.int p1), .val (.int p2), .val (.ref b1), .val (.int iv), .val (.int (0 : Int32)), .val (.long lo), .second, .val (.long (hi - (1 : Int64))), .second, .val (.long (hi - lo)), .second, .val (.long (lo + (((p2.toInt64) &&& (4294967295 : Int64)) - (((p2.toInt64) &&& (4294967295 : Int64)) / (hi - lo)) * (hi - lo)))), .second, .val (.int r0), .unset, .unset] [(.long (hi - (1 : Int64)))]))
    refine ownVia (fun _ k => XS.l2i X86.here hx rfl (hb hby at_335) rfl k) ?_
    show ownFin _ _ _ _ _ (T86.setTop (mkF m 336 #[.val (.int p1), .val (.int p2), .val (.ref b1), .val (.int iv), .val (.int (0 : Int32)), .val (.long lo), .second, .val (.long (hi - (1 : Int64))), .second, .val (.long (hi - lo)), .second, .val (.long (lo + (((p2.toInt64) &&& (4294967295 : Int64)) - (((p2.toInt64) &&& (4294967295 : Int64)) / (hi - lo)) * (hi - lo)))), .second, .val (.int r0), .unset, .unset] [(.int ((hi - (1 : Int64)).toInt32))]))
    refine ownCallS X86 hx hZ hown (hw _ (List.mem_of_getElem? (i := 41) rfl)) (hw _ (List.mem_of_getElem? (i := 42) rfl)) (hw _ (List.mem_of_getElem? (i := 43) rfl)) (hw _ (List.mem_of_getElem? (i := 44) rfl)) (by decide) e86 (own_nchar l Z a0 hw ((hi - (1 : Int64)).toInt32) h81 n0 Z0) (by rw [hml]; rfl) [(.int ((hi - (1 : Int64)).toInt32))] [] (lenOf own_pd0 rfl) rfl rfl 0 rfl (hb hby at_336) (by decide) (by decide) (by decide) (by decide) ?_
    intro v87 T87 L87 X87 hq87
    obtain ⟨N87q, eq87, r1, rfl, hr1⟩ := hq87
    have N87 := Fr.app N86 N87q
    have e87 : T87.heap = h81 := eq87
    show ownFin _ _ _ _ _ (T87.setTop (mkF m 339 #[.val (.int p1), .val (.int p2), .val (.ref b1), .val (.int iv), .val (.int (0 : Int32)), .val (.long lo), .second, .val (.long (hi - (1 : Int64))), .second, .val (.long (hi - lo)), .second, .val (.long (lo + (((p2.toInt64) &&& (4294967295 : Int64)) - (((p2.toInt64) &&& (4294967295 : Int64)) / (hi - lo)) * (hi - lo)))), .second, .val (.int r0), .unset, .unset] [(.int r1)]))
    refine ownVia (fun _ k => XS.istore X87.here hx rfl (hb hby at_339) rfl (l' := #[.val (.int p1), .val (.int p2), .val (.ref b1), .val (.int iv), .val (.int (0 : Int32)), .val (.long lo), .second, .val (.long (hi - (1 : Int64))), .second, .val (.long (hi - lo)), .second, .val (.long (lo + (((p2.toInt64) &&& (4294967295 : Int64)) - (((p2.toInt64) &&& (4294967295 : Int64)) / (hi - lo)) * (hi - lo)))), .second, .val (.int r0), .val (.int r1), .unset]) rfl k) ?_
    show ownFin _ _ _ _ _ (T87.setTop (mkF m 341 #[.val (.int p1), .val (.int p2), .val (.ref b1), .val (.int iv), .val (.int (0 : Int32)), .val (.long lo), .second, .val (.long (hi - (1 : Int64))), .second, .val (.long (hi - lo)), .second, .val (.long (lo + (((p2.toInt64) &&& (4294967295 : Int64)) - (((p2.toInt64) &&& (4294967295 : Int64)) / (hi - lo)) * (hi - lo)))), .second, .val (.int r0), .val (.int r1), .unset] []))
    refine ownVia (fun _ k => XS.lload X87.here hx rfl (hb hby at_341) rfl k) ?_
    show ownFin _ _ _ _ _ (T87.setTop (mkF m 343 #[.val (.int p1), .val (.int p2), .val (.ref b1), .val (.int iv), .val (.int (0 : Int32)), .val (.long lo), .second, .val (.long (hi - (1 : Int64))), .second, .val (.long (hi - lo)), .second, .val (.long (lo + (((p2.toInt64) &&& (4294967295 : Int64)) - (((p2.toInt64) &&& (4294967295 : Int64)) / (hi - lo)) * (hi - lo)))), .second, .val (.int r0), .val (.int r1), .unset] [(.long (lo + (((p2.toInt64) &&& (4294967295 : Int64)) - (((p2.toInt64) &&& (4294967295 : Int64)) / (hi - lo)) * (hi - lo))))]))
    refine ownVia (fun _ k => XS.l2i X87.here hx rfl (hb hby at_343) rfl k) ?_
    show ownFin _ _ _ _ _ (T87.setTop (mkF m 344 #[.val (.int p1), .val (.int p2), .val (.ref b1), .val (.int iv), .val (.int (0 : Int32)), .val (.long lo), .second, .val (.long (hi - (1 : Int64))), .second, .val (.long (hi - lo)), .second, .val (.long (lo + (((p2.toInt64) &&& (4294967295 : Int64)) - (((p2.toInt64) &&& (4294967295 : Int64)) / (hi - lo)) * (hi - lo)))), .second, .val (.int r0), .val (.int r1), .unset] [(.int ((lo + (((p2.toInt64) &&& (4294967295 : Int64)) - (((p2.toInt64) &&& (4294967295 : Int64)) / (hi - lo)) * (hi - lo))).toInt32))]))
    refine ownCallS X87 hx hZ hown (hw _ (List.mem_of_getElem? (i := 41) rfl)) (hw _ (List.mem_of_getElem? (i := 42) rfl)) (hw _ (List.mem_of_getElem? (i := 43) rfl)) (hw _ (List.mem_of_getElem? (i := 44) rfl)) (by decide) e87 (own_nchar l Z a0 hw ((lo + (((p2.toInt64) &&& (4294967295 : Int64)) - (((p2.toInt64) &&& (4294967295 : Int64)) / (hi - lo)) * (hi - lo))).toInt32) h81 n0 Z0) (by rw [hml]; rfl) [(.int ((lo + (((p2.toInt64) &&& (4294967295 : Int64)) - (((p2.toInt64) &&& (4294967295 : Int64)) / (hi - lo)) * (hi - lo))).toInt32))] [] (lenOf own_pd0 rfl) rfl rfl 0 rfl (hb hby at_344) (by decide) (by decide) (by decide) (by decide) ?_
    intro v88 T88 L88 X88 hq88
    obtain ⟨N88q, eq88, r2, rfl, hr2⟩ := hq88
    have N88 := Fr.app N87 N88q
    have e88 : T88.heap = h81 := eq88
    show ownFin _ _ _ _ _ (T88.setTop (mkF m 347 #[.val (.int p1), .val (.int p2), .val (.ref b1), .val (.int iv), .val (.int (0 : Int32)), .val (.long lo), .second, .val (.long (hi - (1 : Int64))), .second, .val (.long (hi - lo)), .second, .val (.long (lo + (((p2.toInt64) &&& (4294967295 : Int64)) - (((p2.toInt64) &&& (4294967295 : Int64)) / (hi - lo)) * (hi - lo)))), .second, .val (.int r0), .val (.int r1), .unset] [(.int r2)]))
    refine ownVia (fun _ k => XS.istore X88.here hx rfl (hb hby at_347) rfl (l' := #[.val (.int p1), .val (.int p2), .val (.ref b1), .val (.int iv), .val (.int (0 : Int32)), .val (.long lo), .second, .val (.long (hi - (1 : Int64))), .second, .val (.long (hi - lo)), .second, .val (.long (lo + (((p2.toInt64) &&& (4294967295 : Int64)) - (((p2.toInt64) &&& (4294967295 : Int64)) / (hi - lo)) * (hi - lo)))), .second, .val (.int r0), .val (.int r1), .val (.int r2)]) rfl k) ?_
    show ownFin _ _ _ _ _ (T88.setTop (mkF m 349 #[.val (.int p1), .val (.int p2), .val (.ref b1), .val (.int iv), .val (.int (0 : Int32)), .val (.long lo), .second, .val (.long (hi - (1 : Int64))), .second, .val (.long (hi - lo)), .second, .val (.long (lo + (((p2.toInt64) &&& (4294967295 : Int64)) - (((p2.toInt64) &&& (4294967295 : Int64)) / (hi - lo)) * (hi - lo)))), .second, .val (.int r0), .val (.int r1), .val (.int r2)] []))
    refine ownVia (fun _ k => XS.iload X88.here hx rfl (hb hby at_349) rfl k) ?_
    show ownFin _ _ _ _ _ (T88.setTop (mkF m 351 #[.val (.int p1), .val (.int p2), .val (.ref b1), .val (.int iv), .val (.int (0 : Int32)), .val (.long lo), .second, .val (.long (hi - (1 : Int64))), .second, .val (.long (hi - lo)), .second, .val (.long (lo + (((p2.toInt64) &&& (4294967295 : Int64)) - (((p2.toInt64) &&& (4294967295 : Int64)) / (hi - lo)) * (hi - lo)))), .second, .val (.int r0), .val (.int r1), .val (.int r2)] [(.int r0)]))
    refine ownVia (fun _ k => XS.iload X88.here hx rfl (hb hby at_351) rfl k) ?_
    show ownFin _ _ _ _ _ (T88.setTop (mkF m 353 #[.val (.int p1), .val (.int p2), .val (.ref b1), .val (.int iv), .val (.int (0 : Int32)), .val (.long lo), .second, .val (.long (hi - (1 : Int64))), .second, .val (.long (hi - lo)), .second, .val (.long (lo + (((p2.toInt64) &&& (4294967295 : Int64)) - (((p2.toInt64) &&& (4294967295 : Int64)) / (hi - lo)) * (hi - lo)))), .second, .val (.int r0), .val (.int r1), .val (.int r2)] [(.int (0 : Int32)), (.int r0)]))
    rw [← h_lo, ← h_hi] at cc
    rw [← h_lo] at hr0
    rw [← h_hi] at hr1
    rw [← h_lo, ← h_hi] at hr2
    refine ownVia (fun _ k => XS.icmpNo X88.here hx rfl (hb hby at_353) rfl (teq (own_at hn37 (Int.le_refl _) ok.2.1 (Or.inr ⟨rfl, by omega⟩) hr0)).2 k) ?_
    show ownFin _ _ _ _ _ (T88.setTop (mkF m 356 #[.val (.int p1), .val (.int p2), .val (.ref b1), .val (.int iv), .val (.int (0 : Int32)), .val (.long lo), .second, .val (.long (hi - (1 : Int64))), .second, .val (.long (hi - lo)), .second, .val (.long (lo + (((p2.toInt64) &&& (4294967295 : Int64)) - (((p2.toInt64) &&& (4294967295 : Int64)) / (hi - lo)) * (hi - lo)))), .second, .val (.int r0), .val (.int r1), .val (.int r2)] []))
    refine ownVia (fun _ k => XS.iload X88.here hx rfl (hb hby at_356) rfl k) ?_
    show ownFin _ _ _ _ _ (T88.setTop (mkF m 358 #[.val (.int p1), .val (.int p2), .val (.ref b1), .val (.int iv), .val (.int (0 : Int32)), .val (.long lo), .second, .val (.long (hi - (1 : Int64))), .second, .val (.long (hi - lo)), .second, .val (.long (lo + (((p2.toInt64) &&& (4294967295 : Int64)) - (((p2.toInt64) &&& (4294967295 : Int64)) / (hi - lo)) * (hi - lo)))), .second, .val (.int r0), .val (.int r1), .val (.int r2)] [(.int r1)]))
    refine ownVia (fun _ k => XS.iload X88.here hx rfl (hb hby at_358) rfl k) ?_
    show ownFin _ _ _ _ _ (T88.setTop (mkF m 360 #[.val (.int p1), .val (.int p2), .val (.ref b1), .val (.int iv), .val (.int (0 : Int32)), .val (.long lo), .second, .val (.long (hi - (1 : Int64))), .second, .val (.long (hi - lo)), .second, .val (.long (lo + (((p2.toInt64) &&& (4294967295 : Int64)) - (((p2.toInt64) &&& (4294967295 : Int64)) / (hi - lo)) * (hi - lo)))), .second, .val (.int r0), .val (.int r1), .val (.int r2)] [(.int (0 : Int32)), (.int r1)]))
    refine ownVia (fun _ k => XS.icmpNo X88.here hx rfl (hb hby at_360) rfl (teq (own_at hn37 cc.2.1 cc.2.2.1 (Or.inr ⟨rfl, by omega⟩) hr1)).2 k) ?_
    show ownFin _ _ _ _ _ (T88.setTop (mkF m 363 #[.val (.int p1), .val (.int p2), .val (.ref b1), .val (.int iv), .val (.int (0 : Int32)), .val (.long lo), .second, .val (.long (hi - (1 : Int64))), .second, .val (.long (hi - lo)), .second, .val (.long (lo + (((p2.toInt64) &&& (4294967295 : Int64)) - (((p2.toInt64) &&& (4294967295 : Int64)) / (hi - lo)) * (hi - lo)))), .second, .val (.int r0), .val (.int r1), .val (.int r2)] []))
    refine ownVia (fun _ k => XS.iload X88.here hx rfl (hb hby at_363) rfl k) ?_
    show ownFin _ _ _ _ _ (T88.setTop (mkF m 365 #[.val (.int p1), .val (.int p2), .val (.ref b1), .val (.int iv), .val (.int (0 : Int32)), .val (.long lo), .second, .val (.long (hi - (1 : Int64))), .second, .val (.long (hi - lo)), .second, .val (.long (lo + (((p2.toInt64) &&& (4294967295 : Int64)) - (((p2.toInt64) &&& (4294967295 : Int64)) / (hi - lo)) * (hi - lo)))), .second, .val (.int r0), .val (.int r1), .val (.int r2)] [(.int r2)]))
    refine ownVia (fun _ k => XS.iload X88.here hx rfl (hb hby at_365) rfl k) ?_
    show ownFin _ _ _ _ _ (T88.setTop (mkF m 367 #[.val (.int p1), .val (.int p2), .val (.ref b1), .val (.int iv), .val (.int (0 : Int32)), .val (.long lo), .second, .val (.long (hi - (1 : Int64))), .second, .val (.long (hi - lo)), .second, .val (.long (lo + (((p2.toInt64) &&& (4294967295 : Int64)) - (((p2.toInt64) &&& (4294967295 : Int64)) / (hi - lo)) * (hi - lo)))), .second, .val (.int r0), .val (.int r1), .val (.int r2)] [(.int (0 : Int32)), (.int r2)]))
    refine ownVia (fun _ k => XS.icmpNo X88.here hx rfl (hb hby at_367) rfl (teq (own_at hn37 cc.2.2.2.1 cc.2.2.2.2 (Or.inr ⟨rfl, by omega⟩) hr2)).2 k) ?_
    show ownFin _ _ _ _ _ (T88.setTop (mkF m 370 #[.val (.int p1), .val (.int p2), .val (.ref b1), .val (.int iv), .val (.int (0 : Int32)), .val (.long lo), .second, .val (.long (hi - (1 : Int64))), .second, .val (.long (hi - lo)), .second, .val (.long (lo + (((p2.toInt64) &&& (4294967295 : Int64)) - (((p2.toInt64) &&& (4294967295 : Int64)) / (hi - lo)) * (hi - lo)))), .second, .val (.int r0), .val (.int r1), .val (.int r2)] []))
    refine ownVia (fun _ k => XS.iconst X88.here hx rfl (hb hby at_370) k) ?_
    show ownFin _ _ _ _ _ (T88.setTop (mkF m 371 #[.val (.int p1), .val (.int p2), .val (.ref b1), .val (.int iv), .val (.int (0 : Int32)), .val (.long lo), .second, .val (.long (hi - (1 : Int64))), .second, .val (.long (hi - lo)), .second, .val (.long (lo + (((p2.toInt64) &&& (4294967295 : Int64)) - (((p2.toInt64) &&& (4294967295 : Int64)) / (hi - lo)) * (hi - lo)))), .second, .val (.int r0), .val (.int r1), .val (.int r2)] [(.int (1 : Int32))]))
    refine ownVia (fun _ k => XS.goto X88.here hx rfl (pc0 := 371) (pc' := 375) rfl (hb hby at_371) (by decide) (by decide) k) ?_
    show ownFin _ _ _ _ _ (T88.setTop (mkF m 375 #[.val (.int p1), .val (.int p2), .val (.ref b1), .val (.int iv), .val (.int (0 : Int32)), .val (.long lo), .second, .val (.long (hi - (1 : Int64))), .second, .val (.long (hi - lo)), .second, .val (.long (lo + (((p2.toInt64) &&& (4294967295 : Int64)) - (((p2.toInt64) &&& (4294967295 : Int64)) / (hi - lo)) * (hi - lo)))), .second, .val (.int r0), .val (.int r1), .val (.int r2)] [(.int (1 : Int32))]))
    refine ownRetZ X88 hx hlk hret (hb hby at_375) (by decide) (by decide) (Or.inr rfl) ?_
    show (Q_own_law Z p1 p2 h0 n0 ) (some (.int (1 : Int32))) T88.heap _
    rw [e88]
    exact ⟨rfl, N88⟩
set_option maxRecDepth 65536 in
set_option maxHeartbeats 40000000 in
theorem own_comes {Post : Tables → Env → Array Value → State → Outcome → State → Prop} (hpost : ∀ tb e args s v u, (limb_1_1.after args s (.returned v) u = true ∧ limb_1_2.after args s (.returned v) u = true ∧ True) → FrameEnd s (.returned v) u (Jvm.fieldLocs frame_1_writes args s ++ Jvm.arrayLocs frame_1_arrays args s ++ Jvm.staticLocs frame_1_statics s) 16 192 → Post tb e args s (.returned v) u) :
    ArmFor flags0 classFile x code maxLocals ret World_1 tables_1 room_1 Calls_1 rest_1 Pre_1 Post := by
  intro l hfl _ _ p e ha hc hk s m args below hf hA hF happ hP
  obtain ⟨hcalls, hrest, hpre⟩ := hP
  obtain ⟨-, -, -, hnamed, -, -, -, hat⟩ := (Spec.applies_iff hf).mp happ
  obtain ⟨hg, hn⟩ := and_e (Cond.before_iff.mp (show (Jvm.Cond.and given_1 narrow_1).before args s = true from hpre))
  obtain ⟨hcount, hg0⟩ := and_e hg
  obtain ⟨w0, w1, rfl⟩ : ∃ w0 w1 : Value, args = #[w0, w1] := by
    have hs : args.size = 2 := by simpa [Cond.value, given_1] using hcount
    obtain ⟨L⟩ := args
    match L, hs with
    | [w0, w1], _ => exact ⟨w0, w1, rfl⟩
  have hw := fun d (hd : d ∈ tables_1) => atoms_spec (ws := Jvm.Cond.code x code maxLocals ret :: tables_1) hat d (List.mem_cons_of_mem _ hd)
  have hfit : Fit s := fun {y c} hc i hi => by
    obtain ⟨ha, rfl⟩ := Array.getElem?_eq_some_iff.mp hc
    have q := List.all_eq_true.mp ((Array.all_eq_true_iff_forall_mem.mp hF) _ (Array.getElem_mem ha)) i (List.mem_range.mpr hi)
    simpa [Array.getElem?_eq_getElem hi] using q
  obtain ⟨hq0, hg1⟩ := and_e hg0
  obtain ⟨i0, ei0⟩ := is_v hq0
  obtain rfl : w0 = (.int i0) := Option.some.inj ei0
  obtain ⟨i1, ei1⟩ := is_v hg1
  obtain rfl : w1 = (.int i1) := Option.some.inj ei1
  obtain ⟨n, o, h1, h2, h3, _, L, rfl, ⟨rfl, N⟩, hq⟩ := own_law l s _ hw tables_1 i0 i1 s.heap s.heap.size  (Nat.le_refl _)  p e ha hc hk s m _ below hf ((Spec.applies_iff_loose hf).mp happ).1 ⟨rfl, State.Warmed39.refl s, rfl⟩ trivial
  refine ⟨n, _, h1, h2, h3, hpost _ _ _ _ _ _ ⟨Cond.after_iff.mpr rfl, Cond.after_iff.mpr (eq_i res_at (Term.int_eval (1)) rfl), trivial⟩ ⟨hq.1, hq.2.1, (hq.2.2.sift fun y hy => Or.inr (N y hy)).mono (by decide) (by decide)⟩⟩
theorem main_1_1 : Claimed_1_1 := own_comes fun _ _ _ _ _ _ h hF => ⟨h.1, hF⟩
theorem main_1_2 : Claimed_1_2 := own_comes fun _ _ _ _ _ _ h hF => ⟨h.2.1, hF⟩
end Jvm.Pilot.@@N@@
namespace Jvm.Pilot.@@N@@
open Jvm Jvm.ClassFile Sem Op Lib Jvm.Free Jvm.Stand Jvm.Pilot.@@N@@.Jvm.D
/-! MADE BY PROGRAM (witnessworld.py) out of the Statement's table words and the real class files: 13 classes; the members and pool entries that the words name. The judged class is class 1, her method 1. -/
namespace start1
open Jvm.ClassFile
def u (s : String) : CpInfo := .utf8 (stringToUtf16 s)
/-- a pool by its gaps: so many unusable entries, then the entry; so many at the end -/
def gap : Nat → List CpInfo → List CpInfo
  | 0, r => r
  | n + 1, r => .unusable :: gap n r
def poolList (es : List (Nat × CpInfo)) (last : Nat) : List CpInfo := es.foldr (fun e r => gap e.1 (e.2 :: r)) (gap last [])
def pool (es : List (Nat × CpInfo)) (last : Nat) : Array CpInfo := ⟨poolList es last⟩
def fileOf (pool : Array CpInfo) (this : Nat) (attrs : Array Attribute := #[]) (ms : Array MethodInfo := #[]) (fl : Nat := 33) (sup : Nat := 0) (ifs : Array Nat := #[]) (fds : Array FieldInfo := #[]) : ClassFile where
  minorVersion := 0
  majorVersion := 65
  constantPool := pool
  accessFlags := fl
  thisClass := this
  superClass := sup
  interfaces := ifs
  fields := fds
  methods := ms
  attributes := attrs
def plain (name : String) (sup : Option ClassId) : Class where
  name := name
  kind := .ordinary
  loader := none
  accessFlags := 33
  super := sup
  interfaces := #[]
  cf := none
  fields := #[]
  methods := #[]
  instanceTypes := #[]
  staticTypes := #[]
  resolved := #[]
  callSites := []
  init := .initialized
  statics := none
  mirror := none

def pool0 : Array CpInfo := pool [(5, u "<init>"), (0, u "()V"), (1, .class_ 10), (1, u "java/lang/Object")] 113

def k0m0 : Method := { name := "<init>", desc := "()V", sig := { parameters := [], returnType := none }, accessFlags := 1, code := none }
/-- java/lang/Object -/
def k0 : Class := { plain "java/lang/Object" none with
  accessFlags := 33
  interfaces := #[]
  cf := some (fileOf pool0 8 #[] #[{ accessFlags := 1, nameIndex := 5, descriptorIndex := 6, attributes := #[] }] 33 0 #[] #[])
  fields := #[]
  methods := #[k0m0]
  instanceTypes := #[]
  staticTypes := #[]
  resolved := Array.replicate 124 none
  statics := none }

def pool1 : Array CpInfo := pool [(2, .class_ 4), (1, u "java/lang/Object"), (0, u "<init>"), (0, u "()V"), (0, .long 18446744071562067968), (1, .long 45), (1, .long 46), (1, .long 48), (1, .long 59), (1, .long 65), (1, .long 91), (1, .long 95), (1, .long 96), (1, .long 97), (1, .long 123), (1, .long 183), (1, .long 184), (1, .long 192), (1, .long 215), (1, .long 216), (1, .long 247), (1, .long 248), (1, .long 894), (1, .long 895), (1, .long 8192), (1, .long 8204), (1, .long 8206), (1, .long 8255), (1, .long 8257), (1, .long 8304), (1, .long 8592), (1, .long 11264), (1, .long 12272), (1, .long 12289), (1, .long 55296), (1, .long 63744), (1, .long 64976), (1, .long 65008), (1, .long 65534), (1, .long 65536), (1, .long 983040), (1, .long 2147483648), (1, .integer 2147483647), (0, .long 4294967295), (1, .methodref 87 88), (0, .class_ 89), (0, .nameAndType 90 91), (0, u "com/example/lacuna/lacuna/rdf/BlankNode"), (0, u "isNameChar"), (0, u "(I)Z"), (0, .class_ 93), (0, u "com/example/lacuna/lacuna/rdf/BlankNodeIsNameCharPinLaw"), (2, u "law"), (0, u "(II)Z")] 5

def k1m0 : Method := { name := "<init>", desc := "()V", sig := { parameters := [], returnType := none }, accessFlags := 2, code := none }
def k1c1 : Code := { maxStack := 6, maxLocals := 16, code := code, exceptionTable := #[], attributes := #[] }
def k1m1 : Method := { name := "law", desc := "(II)Z", sig := { parameters := [.int, .int], returnType := some .boolean }, accessFlags := 9, code := some k1c1 }
/-- com/example/lacuna/lacuna/rdf/BlankNodeIsNameCharPinLaw -/
def k1 : Class := { plain "com/example/lacuna/lacuna/rdf/BlankNodeIsNameCharPinLaw" (some 0) with
  accessFlags := 49
  interfaces := #[]
  cf := some (fileOf pool1 92 #[] #[{ accessFlags := 2, nameIndex := 5, descriptorIndex := 6, attributes := #[] }, { accessFlags := 9, nameIndex := 96, descriptorIndex := 97, attributes := #[] }] 49 2 #[] #[])
  fields := #[]
  methods := #[k1m0, k1m1]
  instanceTypes := #[]
  staticTypes := #[]
  resolved := Array.replicate 103 none
  statics := none }

def pool2 : Array CpInfo := pool [(2, .class_ 4), (1, u "java/lang/Object"), (0, u "<init>"), (0, u "()V"), (0, .class_ 8), (0, u "java/lang/Record")] 13

def k2m0 : Method := { name := "<init>", desc := "()V", sig := { parameters := [], returnType := none }, accessFlags := 4, code := none }
/-- java/lang/Record -/
def k2 : Class := { plain "java/lang/Record" (some 0) with
  accessFlags := 1057
  interfaces := #[]
  cf := some (fileOf pool2 7 #[] #[{ accessFlags := 4, nameIndex := 5, descriptorIndex := 6, attributes := #[] }] 1057 2 #[] #[])
  fields := #[]
  methods := #[k2m0]
  instanceTypes := #[]
  staticTypes := #[]
  resolved := Array.replicate 22 none
  statics := none }

def pool3 : Array CpInfo := pool [(1, .class_ 2), (0, u "com/example/lacuna/lacuna/rdf/Term"), (0, .class_ 4), (0, u "java/lang/Object")] 9

/-- com/example/lacuna/lacuna/rdf/Term -/
def k3 : Class := { plain "com/example/lacuna/lacuna/rdf/Term" (some 0) with
  accessFlags := 1537
  interfaces := #[]
  cf := some (fileOf pool3 1 #[] #[] 1537 3 #[] #[])
  fields := #[]
  methods := #[]
  instanceTypes := #[]
  staticTypes := #[]
  resolved := Array.replicate 14 none
  statics := none }

def pool4 : Array CpInfo := pool [(2, .class_ 4), (1, u "java/lang/Record"), (3, u "label"), (23, .methodref 33 34), (0, .class_ 35), (0, .nameAndType 36 37), (0, u "com/example/lacuna/lacuna/rdf/BlankNode"), (0, u "isNameStartChar"), (0, u "(I)Z"), (42, u "Ljava/lang/String;"), (14, .integer 55295), (0, .integer 63744), (0, .integer 64975), (0, .integer 65008), (0, .integer 65533), (0, .integer 65536), (0, .integer 983039), (2, u "isNameChar"), (12, .class_ 118), (0, u "com/example/lacuna/lacuna/rdf/Term")] 42

def k4c0 : Code := { maxStack := 2, maxLocals := 1, code := prog_31_method_3_code, exceptionTable := #[], attributes := #[] }
def k4m0 : Method := { name := "isNameChar", desc := "(I)Z", sig := { parameters := [.int], returnType := some .boolean }, accessFlags := 8, code := some k4c0 }
def k4c1 : Code := { maxStack := 2, maxLocals := 1, code := prog_31_method_4_code, exceptionTable := #[], attributes := #[] }
def k4m1 : Method := { name := "isNameStartChar", desc := "(I)Z", sig := { parameters := [.int], returnType := some .boolean }, accessFlags := 10, code := some k4c1 }
/-- com/example/lacuna/lacuna/rdf/BlankNode -/
def k4 : Class := { plain "com/example/lacuna/lacuna/rdf/BlankNode" (some 2) with
  accessFlags := 49
  interfaces := #[3]
  cf := some (fileOf pool4 33 #[] #[{ accessFlags := 8, nameIndex := 104, descriptorIndex := 37, attributes := #[] }, { accessFlags := 10, nameIndex := 36, descriptorIndex := 37, attributes := #[] }] 49 2 #[117] #[{ accessFlags := 18, nameIndex := 8, descriptorIndex := 80, attributes := #[] }])
  fields := #[{ name := "label", type := (.object "java/lang/String"), accessFlags := 18, slot := 0, constantValue := 0 }]
  methods := #[k4m0, k4m1]
  instanceTypes := #[(.object "java/lang/String")]
  staticTypes := #[]
  resolved := Array.replicate 161 none
  statics := none }

def pool5 : Array CpInfo := pool [(1, u "java/lang/Cloneable"), (0, .class_ 1), (0, u "java/lang/Object"), (0, .class_ 3)] 3

/-- java/lang/Cloneable -/
def k5 : Class := { plain "java/lang/Cloneable" (some 0) with
  accessFlags := 1537
  interfaces := #[]
  cf := some (fileOf pool5 2 #[] #[] 1537 4 #[] #[])
  fields := #[]
  methods := #[]
  instanceTypes := #[]
  staticTypes := #[]
  resolved := Array.replicate 8 none
  statics := none }

def pool6 : Array CpInfo := pool [(1, u "java/io/Serializable"), (0, .class_ 1), (0, u "java/lang/Object"), (0, .class_ 3)] 3

/-- java/io/Serializable -/
def k6 : Class := { plain "java/io/Serializable" (some 0) with
  accessFlags := 1537
  interfaces := #[]
  cf := some (fileOf pool6 2 #[] #[] 1537 4 #[] #[])
  fields := #[]
  methods := #[]
  instanceTypes := #[]
  staticTypes := #[]
  resolved := Array.replicate 8 none
  statics := none }

/-- the primitive byte -/
def k7 : Class := { plain "byte" none with kind := .primitive 'B', accessFlags := 0x411 }
/-- [B -/
def k8 : Class := { plain "[B" (some 0) with kind := .array 7 .byte, interfaces := #[5, 6], accessFlags := 1041 }

/-- the primitive int -/
def k9 : Class := { plain "int" none with kind := .primitive 'I', accessFlags := 0x411 }
/-- [I -/
def k10 : Class := { plain "[I" (some 0) with kind := .array 9 .int, interfaces := #[5, 6], accessFlags := 1041 }

/-- the primitive long -/
def k11 : Class := { plain "long" none with kind := .primitive 'J', accessFlags := 0x411 }
/-- [J -/
def k12 : Class := { plain "[J" (some 0) with kind := .array 11 .long, interfaces := #[5, 6], accessFlags := 1041 }

def heap : Heap := #[]
def classes : Array Class := #[k0, k1, k2, k3, k4, k5, k6, k7, k8, k9, k10, k11, k12]
def interned : List (Array UInt16 × Addr) := []
def slotsUsed : Nat := 0
def theMethod : MethodId := ⟨1, 1⟩
def args0 : Array Value := #[.int 5, .int 3]
def aboutOver (below : List Frame) : State where
  vm := { classes := classes, interned := interned.toArray }
  heap := heap
  slotsUsed := slotsUsed
  threads := #[{ frames := .invoking theMethod args0 :: below }]
def below0 : List Frame := [.native { method := ⟨0, 0⟩, args := #[] }]
def about1 : State := aboutOver below0
def p0 : Program := .bare "" "" ""
def e0 : Env := launch0.env 0 0 0
theorem w_frames : about1.frames = Frame.invoking theMethod args0 :: below0 := rfl
set_option maxRecDepth 65536 in
theorem w_args : argsFit about1.vm theMethod args0 = true := by decide +kernel
set_option maxRecDepth 65536 in
theorem w_heap : heapFits about1 = true := by decide +kernel
set_option maxRecDepth 65536 in
theorem w_runnable : about1.curStatus? = some .runnable := by decide +kernel
set_option maxRecDepth 65536 in
theorem w_alone : about1.alone = true := by decide +kernel
set_option maxRecDepth 65536 in
theorem w_named : about1.methodNamed? x = some theMethod := by decide +kernel
set_option maxRecDepth 65536 in
theorem w_hears : about1.hears theMethod below0 = true := by decide +kernel
set_option maxRecDepth 65536 in
theorem w_ripe : about1.ripe theMethod args0 below0 = true := by decide +kernel
theorem w_running : about1.status = .running := rfl
set_option maxRecDepth 65536 in
theorem w_room : about1.hasRoom e0.platform room_1 = true :=
  launch0.hasRoom_least _ room_1 (by decide +kernel) (by decide +kernel) (by decide +kernel) (by decide +kernel) (by decide +kernel) (by decide +kernel)
theorem allAtoms_all (ts : List Jvm.Cond) (a : Array Jvm.Value) (st : Jvm.State) : (allAtoms ts).before a st = ts.all (fun c => c.before a st) := by
  induction ts with
  | nil => rfl
  | cons c t ih =>
    show (Jvm.Cond.and c (allAtoms t)).before a st = _
    rw [Jvm.Cond.before_and, ih, List.all_cons]
def words1 : List Jvm.Cond := Jvm.Cond.code x code maxLocals ret :: tables_1
/-- a 'code' word, met by the world's own term for the bytes: nothing is compared byte by byte -/
theorem code_word {y : MethodName} {bytes : ByteArray} {mx : Nat} {rt : Option FieldType} {a : Array Value} {s : State} {m : MethodId} {meth : Method} {c : Code} (h1 : s.methodNamed? y = some m) (h2 : s.vm.method? m = some meth) (h3 : meth.code = some c) (h4 : c.code = bytes)
    (h5 : (c.maxLocals == mx && c.exceptionTable.isEmpty && decide (c.maxStack ≤ mostOperands) && decide (meth.sig.returnType = rt) && !meth.locks && decide (parseMethodDescriptor y.desc = some meth.sig)) = true) : (Jvm.Cond.code y bytes mx rt).before a s = true := by
  simp only [Bool.and_eq_true, beq_iff_eq, Bool.not_eq_true', decide_eq_true_eq] at h5
  obtain ⟨⟨⟨⟨⟨g1, g2⟩, g3⟩, g4⟩, g5⟩, g6⟩ := h5
  simp [Cond.before, Cond.holds, Cond.value, h1, h2, h3, h4, g1, g2, g3, g4, g5, g6]
def isCode : Jvm.Cond → Bool
  | .code _ _ _ _ => true
  | _ => false
theorem all_split {L : List Jvm.Cond} {P : Jvm.Cond → Bool} (h1 : L.all (fun c => isCode c || P c) = true) (h2 : ∀ c ∈ L.filter isCode, P c = true) : L.all P = true := by
  refine List.all_eq_true.mpr fun c hc => ?_
  have h := List.all_eq_true.mp h1 c hc
  rcases Bool.eq_false_or_eq_true (isCode c) with hi | hi
  · exact h2 c (List.mem_filter.mpr ⟨hc, hi⟩)
  · simpa [hi] using h
set_option maxRecDepth 65536 in
theorem w_c0 : (Jvm.Cond.code x code maxLocals ret).before args0 about1 = true := code_word (m := ⟨1, 1⟩) (meth := k1m1) (c := k1c1) (by decide +kernel) rfl rfl rfl (by decide +kernel)
set_option maxRecDepth 65536 in
theorem w_c1 : (Jvm.Cond.code ({ cls := "com/example/lacuna/lacuna/rdf/BlankNode", name := "isNameChar", desc := "(I)Z" } : Jvm.MethodName) prog_31_method_3_code (1 : Nat) (Option.some Jvm.ClassFile.FieldType.boolean)).before args0 about1 = true := code_word (m := ⟨4, 0⟩) (meth := k4m0) (c := k4c0) (by decide +kernel) rfl rfl rfl (by decide +kernel)
set_option maxRecDepth 65536 in
theorem w_c2 : (Jvm.Cond.code ({ cls := "com/example/lacuna/lacuna/rdf/BlankNode", name := "isNameStartChar", desc := "(I)Z" } : Jvm.MethodName) prog_31_method_4_code (1 : Nat) (Option.some Jvm.ClassFile.FieldType.boolean)).before args0 about1 = true := code_word (m := ⟨4, 1⟩) (meth := k4m1) (c := k4c1) (by decide +kernel) rfl rfl rfl (by decide +kernel)
def codes1 : List Jvm.Cond := [Jvm.Cond.code x code maxLocals ret, Jvm.Cond.code ({ cls := "com/example/lacuna/lacuna/rdf/BlankNode", name := "isNameChar", desc := "(I)Z" } : Jvm.MethodName) prog_31_method_3_code (1 : Nat) (Option.some Jvm.ClassFile.FieldType.boolean), Jvm.Cond.code ({ cls := "com/example/lacuna/lacuna/rdf/BlankNode", name := "isNameStartChar", desc := "(I)Z" } : Jvm.MethodName) prog_31_method_4_code (1 : Nat) (Option.some Jvm.ClassFile.FieldType.boolean)]
set_option maxRecDepth 65536 in
theorem codes_eq : words1.filter isCode = codes1 := rfl
theorem w_codes : ∀ c ∈ words1.filter isCode, c.before args0 about1 = true := by
  rw [codes_eq]
  intro c hc
  simp only [codes1, List.mem_cons, List.not_mem_nil, or_false] at hc
  rcases hc with rfl | rfl | rfl
  · exact w_c0
  · exact w_c1
  · exact w_c2
set_option maxRecDepth 65536 in
theorem w_t1 : (words1.take 24).all (fun c => isCode c || c.before args0 about1) = true := by decide +kernel
set_option maxRecDepth 65536 in
theorem w_t2 : ((words1.drop 24).take 24).all (fun c => isCode c || c.before args0 about1) = true := by decide +kernel
set_option maxRecDepth 65536 in
theorem w_t3 : ((words1.drop 24).drop 24).all (fun c => isCode c || c.before args0 about1) = true := by decide +kernel
theorem w_tables : (allAtoms (Jvm.Cond.code x code maxLocals ret :: tables_1)).before args0 about1 = true := by
  rw [allAtoms_all]
  show words1.all (fun c => c.before args0 about1) = true
  refine all_split ?_ w_codes
  rw [← List.take_append_drop 24 words1, List.all_append, w_t1, ← List.take_append_drop 24 (words1.drop 24), List.all_append, w_t2, w_t3]
  rfl
set_option maxRecDepth 65536 in
theorem w_case : (Jvm.Cond.and given_1 narrow_1).before args0 about1 = true := by decide +kernel
theorem w_applies : (headSpec (Jvm.Cond.code x code maxLocals ret :: tables_1) room_1).applies x e0.platform about1 = true :=
  (Spec.applies_iff w_frames).mpr ⟨w_running, w_runnable, w_alone, w_named, w_hears, w_ripe, w_room, w_tables⟩
theorem atStart : AtStart classFile x code maxLocals ret World_1 tables_1 room_1 Calls_1 rest_1 Pre_1 launch0 p0 e0 about1 theMethod args0 below0 :=
  ⟨lists_1, trivial, launch0.admits_env _ _ _, launch0.least_env, fairChoices_fair.cas, fairChoices_fair.clock, w_frames, w_args, w_heap, w_applies, trivial, trivial, w_case⟩
end start1
theorem witness_1 : WitnessClaimed_1 := ⟨start1.p0, start1.e0, start1.about1, start1.theMethod, start1.args0, start1.below0, start1.atStart⟩
end Jvm.Pilot.@@N@@
