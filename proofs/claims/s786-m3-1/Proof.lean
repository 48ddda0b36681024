import JvmDerived
import JvmDerived.Pilot.@@N@@Statement
import JvmDerived.Pilot.@@N@@Code
set_option linter.unusedVariables false
set_option linter.unusedSimpArgs false
namespace Jvm.Pilot.@@N@@
open Jvm Jvm.ClassFile Sem Op Lib Jvm.Free Jvm.Stand Jvm.LawKit Jvm.RoadKit Bundle Jvm.Pilot.@@N@@.Jvm.D
section Own
variable {p : Program} {l : Launch} {e : Env} {R : Room} {s : State} {m : MethodId} {args : Array Value} {below : List Frame} {meth : Method} {c : Code} {T : State} {locs : List Loc} {cells slots : Nat} {Z : State} {a0 : Array Value} {h : Heap} {Q : Option Value → Heap → List Loc → Prop} {C S : Nat} {u u' : State} {F : Outcome → State → List Loc → Prop}
/-- from u the invocation comes to its end, and Q holds of what it returns, of the heap and of the places written -/
def ownFin (p : Program) (e : Env) (below : List Frame) (F : Outcome → State → List Loc → Prop) (Q : Option Value → Heap → List Loc → Prop) (u : State) : Prop :=
  ∃ t o, Steps p.tables e below u t ∧ t.status = .running ∧ Ended t below o ∧ ∃ v L, o = .returned v ∧ Q v t.heap L ∧ F o t L
/-- how it ends: at most C new cells of S slots, the tables warmer, nothing old written but at the places L -/
def ownFE (s : State) (C S : Nat) : Outcome → State → List Loc → Prop := fun o t L => FrameEnd s o t L C S
theorem ownVia (f : ∀ t, Steps p.tables e below u' t → Steps p.tables e below u t) (k : ownFin p e below F Q u') : ownFin p e below F Q u := by
  obtain ⟨t, o, h1, r⟩ := k
  exact ⟨t, o, f t h1, r⟩
theorem ownRet (X : Stand p l e R s m args below meth c T locs cells slots) (hlk : meth.locks = false) {v : Option Value} (hv : meth.sig.returnType = none → v = none)
    (f : ∀ fs, (∀ (f : JFrame) (acts : List Action), f.method = m → f.locked = none → f.entered = [] → (doReturn e (T.setTop f) acts v).1 = T.setFrames fs) → Steps p.tables e below u (T.setFrames fs))
    (hC : cells ≤ C) (hS : slots ≤ S) (hQ : Q v T.heap locs) : ownFin p e below (ownFE s C S) Q u := by
  obtain ⟨fs, hr, hrun, hended, hW, hsame⟩ := X.leave (v := v) hv hlk
  exact ⟨_, _, f fs hr, hrun, hended, v, _, rfl, hQ, ⟨_, rfl⟩, hW, hsame.mono hC hS⟩
theorem ownRetI (X : Stand p l e R s m args below meth c T locs cells slots) (hx : p.tables.exec = Jvm.exec) (hlk : meth.locks = false) (hret : meth.sig.returnType = some .int) {pc : Nat} {Ls : Array Slot} {z : Int32} {rest : List Value} (hd : decode c.code pc = .ok (.ireturn, 1)) (hC : cells ≤ C) (hS : slots ≤ S) (hQ : Q (some (.int z)) T.heap locs) : ownFin p e below (ownFE s C S) Q (T.setTop (mkF m pc Ls (.int z :: rest))) :=
  ownRet X hlk (v := some (.int z)) (fun q => by rw [hret] at q; cases q) (fun fs hr => retOut X hx hret rfl (Or.inl ⟨rfl, Or.inl rfl, z, rfl⟩) hd hr) hC hS hQ
theorem ownRetZ (X : Stand p l e R s m args below meth c T locs cells slots) (hx : p.tables.exec = Jvm.exec) (hlk : meth.locks = false) (hret : meth.sig.returnType = some .boolean) {pc : Nat} {Ls : Array Slot} {z : Int32} {rest : List Value} (hd : decode c.code pc = .ok (.ireturn, 1)) (hC : cells ≤ C) (hS : slots ≤ S) (hz : z = 0 ∨ z = 1) (hQ : Q (some (.int z)) T.heap locs) : ownFin p e below (ownFE s C S) Q (T.setTop (mkF m pc Ls (.int z :: rest))) :=
  ownRet X hlk (v := some (.int z)) (fun q => by rw [hret] at q; cases q) (fun fs hr => retOut X hx hret (by rcases hz with rfl | rfl <;> rfl) (Or.inl ⟨rfl, Or.inr (Or.inl rfl), z, rfl⟩) hd hr) hC hS hQ
theorem ownRetJ (X : Stand p l e R s m args below meth c T locs cells slots) (hx : p.tables.exec = Jvm.exec) (hlk : meth.locks = false) (hret : meth.sig.returnType = some .long) {pc : Nat} {Ls : Array Slot} {z : Int64} {rest : List Value} (hd : decode c.code pc = .ok (.lreturn, 1)) (hC : cells ≤ C) (hS : slots ≤ S) (hQ : Q (some (.long z)) T.heap locs) : ownFin p e below (ownFE s C S) Q (T.setTop (mkF m pc Ls (.long z :: rest))) :=
  ownRet X hlk (v := some (.long z)) (fun q => by rw [hret] at q; cases q) (fun fs hr => retOut X hx hret rfl (Or.inr (Or.inl ⟨rfl, rfl, z, rfl⟩)) hd hr) hC hS hQ
theorem ownRetA (X : Stand p l e R s m args below meth c T locs cells slots) (hx : p.tables.exec = Jvm.exec) (hlk : meth.locks = false) {ty : FieldType} (hret : meth.sig.returnType = some ty) (hty : ty.isReference = true) {pc : Nat} {Ls : Array Slot} {a : Addr} {rest : List Value} (hd : decode c.code pc = .ok (.areturn, 1)) (hC : cells ≤ C) (hS : slots ≤ S) (hQ : Q (some (.ref a)) T.heap locs) : ownFin p e below (ownFE s C S) Q (T.setTop (mkF m pc Ls (.ref a :: rest))) :=
  ownRet X hlk (v := some (.ref a)) (fun q => by rw [hret] at q; cases q) (fun fs hr => retOut X hx hret (by cases ty <;> first | rfl | cases hty) (Or.inr (Or.inr (Or.inr (Or.inr ⟨rfl, hty, rfl⟩)))) hd hr) hC hS hQ
theorem ownRetV (X : Stand p l e R s m args below meth c T locs cells slots) (hx : p.tables.exec = Jvm.exec) (hlk : meth.locks = false) (hret : meth.sig.returnType = none) {pc : Nat} {Ls : Array Slot} (hd : decode c.code pc = .ok (.return_, 1)) (hC : cells ≤ C) (hS : slots ≤ S) (hQ : Q none T.heap locs) : ownFin p e below (ownFE s C S) Q (T.setTop (mkF m pc Ls [])) :=
  ownRet X hlk (v := none) (fun _ => rfl) (fun fs hr => X.returnOut hx hret hd hr) hC hS hQ
/-- the contract of a method at given arguments and a given heap -/
abbrev ownMet (l : Launch) (Z : State) (y : MethodName) (bytes : ByteArray) (maxL : Nat) (ret : Option FieldType) (ws : List Jvm.Cond) (rm : Room) (as' : Array Value) (h0 : Heap) (Q : Option Value → Heap → List Loc → Prop) : Prop :=
  MetFree l y (head1 (Jvm.Cond.code y bytes maxL ret :: ws) rm) (fun a U => a = as' ∧ Z.Warmed39 U.vm ∧ U.heap = h0) (fun _ _ _ _ _ => True) (fun _ U o U' => ∃ v L, o = .returned v ∧ Q v U'.heap L ∧ FrameEnd U o U' L rm.cells rm.slots)
theorem ownBody {y : MethodName} {bytes : ByteArray} {maxL : Nat} {ret : Option FieldType} {ws : List Jvm.Cond} {rm : Room} {as' : Array Value} {h0 : Heap} (hpl : plainFor y = true)
    (H : ∀ (p : Program) (e : Env) (s : State) (m : MethodId) (below : List Frame) (meth : Method) (c : Code) (T : State), p.tables.exec = Jvm.exec → c.code = bytes → c.maxLocals = maxL → meth.sig.returnType = ret → meth.locks = false → Z.Warmed39 s.vm → s.vm.findClass y.cls = some m.cls → meth.name = y.name →
      Stand p l e rm s m as' below meth c T [] 0 0 → T.heap = h0 → ownFin p e below (ownFE s rm.cells rm.slots) Q (T.setTop (entryFrame m as' maxL))) : ownMet l Z y bytes maxL ret ws rm as' h0 Q := by
  refine MetFree.of_bodySF hpl hisR ?_
  intro p e s m args below meth c s₁ Bd hml0 hP hK
  obtain ⟨rfl, hZ, hh⟩ := hP
  exact H p e s m below meth c s₁ Bd.exec Bd.bytes hml0 Bd.returns Bd.notSynchronized hZ (findClass_of_methodNamed Bd.named) (name_of_methodNamed Bd.named Bd.method).1 (Stand.of_body Bd) (by rw [← hh, Bd.state]; rfl)
theorem ownCallS {own : String} {index : Nat} {y : MethodName} {bytes : ByteArray} {maxL : Nat} {ret : Option FieldType} {rm : Room} {as' : Array Value} {Q' : Option Value → Heap → List Loc → Prop}
    (X : Stand p l e R s m args below meth c T locs cells slots) (hx : p.tables.exec = Jvm.exec) (hZ : Z.Warmed39 s.vm) (hown : s.vm.findClass own = some m.cls)
    (w1 : (Jvm.Cond.methodLink own index y).before a0 Z = true) (w2 : (Jvm.Cond.static y).before a0 Z = true) (w3 : (Jvm.Cond.initialized y.cls).before a0 Z = true) (w4 : (Jvm.Cond.code y bytes maxL ret).before a0 Z = true)
    (hy : y.cls ≠ "java/lang/invoke/MethodHandle" ∧ y.cls ≠ "java/lang/invoke/VarHandle") (eT : T.heap = h) (hM : ownMet l Z y bytes maxL ret [] rm as' h Q')
    {pc : Nat} {Ls : Array Slot} {st : List Value} (hsz : Ls.size = c.maxLocals) (argsL rest : List Value) (hlen : ∀ sig, parseMethodDescriptor y.desc = some sig → argsL.length = sig.parameters.length)
    (hst : st = argsL.reverse ++ rest) (has : argsL.toArray = as') (W : Nat) (hW : (rest.map fun v => v.category).sum = W) (hd : decode c.code pc = .ok (.invokestatic index, 3))
    (hfr : rm.frames + 1 ≤ R.frames) (hlo : W + (maxL + 11) + rm.locals ≤ R.locals) (hce : cells + rm.cells ≤ R.cells) (hsl : slots + rm.slots ≤ R.slots)
    (K : ∀ v T' L', Stand p l e R s m args below meth c T' (locs ++ L') (cells + rm.cells) (slots + rm.slots) → Q' v T'.heap L' → ownFin p e below F Q (T'.setTop (mkF m (pc + 3) Ls (v.toList ++ rest)))) :
    ownFin p e below F Q (T.setTop (mkF m pc Ls st)) := by
  obtain ⟨v, _, ⟨T2, L2, k2, n2⟩, -, X2, ⟨Lc2, hQ2, l2, y2, z2⟩, st2⟩ := Jvm.LawKit.callS X hx (y := y) hown (mvT hZ w1) (mvT hZ w2) (mvT hZ w3) (mvT hZ w4) hy (backOf (W := W) hM hZ w4 w3 hfr hlo) (g := mkF m pc Ls st) rfl hsz (argsL := argsL) (rest := rest) hlen hst (by show 2 * 0 + _ ≤ _; omega) hd (fun _ _ => ⟨has, eT, hce, hsl⟩)
  dsimp only [Pt.U, Pt.locs, Pt.cells, Pt.slots] at X2 l2 y2 z2 st2 hQ2
  subst l2 y2 z2
  exact ownVia st2 (K v T2 Lc2 X2 hQ2)
theorem ownCallN {own : String} {index : Nat} {y : MethodName} {bytes : ByteArray} {maxL : Nat} {rm : Room} {as' : Array Value} {Q' : Option Value → Heap → List Loc → Prop}
    (X : Stand p l e R s m args below meth c T locs cells slots) (hx : p.tables.exec = Jvm.exec) (hZ : Z.Warmed39 s.vm) (hown : s.vm.findClass own = some m.cls) (hy1 : y.name = "<init>")
    (w1 : (Jvm.Cond.methodLink own index y).before a0 Z = true) (w2 : (Jvm.Cond.instanceMethod y).before a0 Z = true) (w3 : (Jvm.Cond.initialized y.cls).before a0 Z = true) (w4 : (Jvm.Cond.code y bytes maxL none).before a0 Z = true)
    (hy : y.cls ≠ "java/lang/invoke/MethodHandle" ∧ y.cls ≠ "java/lang/invoke/VarHandle") (eT : T.heap = h) (hM : ownMet l Z y bytes maxL none [] rm as' h Q')
    {pc : Nat} {Ls : Array Slot} {st : List Value} (hsz : Ls.size = c.maxLocals) (a : Addr) (argsL rest : List Value) (hlen : ∀ sig, parseMethodDescriptor y.desc = some sig → argsL.length = sig.parameters.length)
    (hst : st = argsL.reverse ++ .ref a :: rest) (has : (Value.ref a :: argsL).toArray = as') (W : Nat) (hW : (rest.map fun v => v.category).sum = W) (hd : decode c.code pc = .ok (.invokespecial index, 3))
    (hfr : rm.frames + 1 ≤ R.frames) (hlo : W + (maxL + 11) + rm.locals ≤ R.locals) (hce : cells + rm.cells ≤ R.cells) (hsl : slots + rm.slots ≤ R.slots)
    (K : ∀ v T' L', Stand p l e R s m args below meth c T' (locs ++ L') (cells + rm.cells) (slots + rm.slots) → Q' v T'.heap L' → ownFin p e below F Q (T'.setTop (mkF m (pc + 3) Ls (v.toList ++ rest)))) :
    ownFin p e below F Q (T.setTop (mkF m pc Ls st)) := by
  obtain ⟨v, _, ⟨T2, L2, k2, n2⟩, -, X2, ⟨Lc2, hQ2, l2, y2, z2⟩, st2⟩ := X.specialBack hx (y := y) hy1 hown (mvT hZ w1) (mvT hZ w2) (mvT hZ w4) hy (backOf (W := W) hM hZ w4 w3 hfr hlo) (g := mkF m pc Ls st) rfl hsz (Steps.refl _) (a := a) (argsL := argsL) (rest := rest) hlen hst (by show 2 * 0 + _ ≤ _; omega) hd (fun _ _ => ⟨has, eT, hce, hsl⟩)
  dsimp only [Pt.U, Pt.locs, Pt.cells, Pt.slots] at X2 l2 y2 z2 st2 hQ2
  subst l2 y2 z2
  exact ownVia (fun _ k => st2.trans k) (K v T2 Lc2 X2 hQ2)
theorem ownCallV {own C' : String} {index : Nat} {y z : MethodName} {bytes : ByteArray} {maxL : Nat} {ret : Option FieldType} {rm : Room} {as' : Array Value} {Q' : Option Value → Heap → List Loc → Prop}
    (X : Stand p l e R s m args below meth c T locs cells slots) (hx : p.tables.exec = Jvm.exec) (hZ : Z.Warmed39 s.vm) (hown : s.vm.findClass own = some m.cls)
    (w1 : (Jvm.Cond.methodLink own index y).before a0 Z = true) (w2 : (Jvm.Cond.declares y).before a0 Z = true) (w5 : (Jvm.Cond.selects y.cls y y).before a0 Z = true) (w6 : (Jvm.Cond.selects C' y z).before a0 Z = true) (w7 : (Jvm.Cond.instanceMethod z).before a0 Z = true) (w3 : (Jvm.Cond.initialized z.cls).before a0 Z = true) (w4 : (Jvm.Cond.code z bytes maxL ret).before a0 Z = true)
    (hy : y.cls ≠ "java/lang/invoke/MethodHandle" ∧ y.cls ≠ "java/lang/invoke/VarHandle") (eT : T.heap = h) {a : Addr} (E : Exa Z h a C') (hM : ownMet l Z z bytes maxL ret [] rm as' h Q')
    {pc : Nat} {Ls : Array Slot} {st : List Value} (hsz : Ls.size = c.maxLocals) (argsL rest : List Value) (hlen : ∀ sig, parseMethodDescriptor y.desc = some sig → argsL.length = sig.parameters.length)
    (hst : st = argsL.reverse ++ .ref a :: rest) (has : (Value.ref a :: argsL).toArray = as') (W : Nat) (hW : (rest.map fun v => v.category).sum = W) (hd : decode c.code pc = .ok (.invokevirtual index, 3))
    (hfr : rm.frames + 1 ≤ R.frames) (hlo : W + (maxL + 11) + rm.locals ≤ R.locals) (hce : cells + rm.cells ≤ R.cells) (hsl : slots + rm.slots ≤ R.slots)
    (K : ∀ v T' L', Stand p l e R s m args below meth c T' (locs ++ L') (cells + rm.cells) (slots + rm.slots) → Q' v T'.heap L' → ownFin p e below F Q (T'.setTop (mkF m (pc + 3) Ls (v.toList ++ rest)))) :
    ownFin p e below F Q (T.setTop (mkF m pc Ls st)) := by
  obtain ⟨cq, kq, qa, qb, qc⟩ := isOf hZ eT E
  obtain ⟨v, _, ⟨T2, L2, k2, n2⟩, -, X2, ⟨Lc2, hQ2, l2, y2, z2⟩, st2⟩ := X.virtualBack hx (y := y) (z := z) hown (mvT hZ w1) (mvT hZ w2) (notFace_of_selects (args := #[]) (mvT hZ w5)) (mvT hZ w6) (mvT hZ w7) hy (backOf (W := W) hM hZ w4 w3 hfr hlo) qa qc (g := mkF m pc Ls st) rfl hsz (Steps.refl _) (argsL := argsL) (rest := rest) hlen hst (by show 2 * 0 + _ ≤ _; omega) hd (fun _ _ => ⟨has, eT, hce, hsl⟩)
  dsimp only [Pt.U, Pt.locs, Pt.cells, Pt.slots] at X2 l2 y2 z2 st2 hQ2
  subst l2 y2 z2
  exact ownVia (fun _ k => st2.trans k) (K v T2 Lc2 X2 hQ2)
theorem ownLen {a : Addr} {k : ClassId} {ty : FieldType} {z : Int32} {vs : List Value} {dv : Value} (X : Stand p l e R s m args below meth c T locs cells slots) (hx : p.tables.exec = Jvm.exec) (hZ : Z.Warmed39 s.vm) (eT : T.heap = h) (A : Arv Z h a k ty z vs dv) {pc : Nat} {Ls : Array Slot} {rest : List Value} (hd : decode c.code pc = .ok (.arraylength, 1))
    (K : ownFin p e below F Q (T.setTop (mkF m (pc + 1) Ls (.int z :: rest)))) : ownFin p e below F Q (T.setTop (mkF m pc Ls (.ref a :: rest))) := by
  obtain ⟨cl, Ar, -, Sz, Nz, -, -⟩ := A
  rw [← len_of Sz Nz] at K
  exact ownVia (fun t k => X.arraylength hx (by rw [eT]; exact Ar.1) (State.isArrayOf_alike hZ.alike Ar.2.1) (g := mkF m pc Ls (.ref a :: rest)) rfl rfl hd t k) K
theorem ownBaload {a : Addr} {k : ClassId} {z j : Int32} {vs : List Value} {dv v : Value} (X : Stand p l e R s m args below meth c T locs cells slots) (hx : p.tables.exec = Jvm.exec) (hZ : Z.Warmed39 s.vm) (eT : T.heap = h) (A : Arv Z h a k .byte z vs dv) (hj : ¬ j < 0 ∧ j < z) (hv : vs.getD j.toNatClampNeg dv = v) {pc : Nat} {Ls : Array Slot} {rest : List Value} (hd : decode c.code pc = .ok (.baload, 1))
    (K : ownFin p e below F Q (T.setTop (mkF m (pc + 1) Ls (v :: rest)))) : ownFin p e below F Q (T.setTop (mkF m pc Ls (.int j :: .ref a :: rest))) := by
  obtain ⟨cl, Ar, -, Sz, Nz, H, -⟩ := A
  have hin := inb_of Sz hj
  exact ownVia (fun t k => X.baloadBytes hx (by rw [eT]; exact Ar.1) (State.isArrayOf_alike hZ.alike Ar.2.1) Ar.2.2 hin (H.at hin hv) (g := mkF m pc Ls (.int j :: .ref a :: rest)) rfl rfl hd t k) K
theorem ownIaload {a : Addr} {k : ClassId} {z j : Int32} {vs : List Value} {dv v : Value} (X : Stand p l e R s m args below meth c T locs cells slots) (hx : p.tables.exec = Jvm.exec) (hZ : Z.Warmed39 s.vm) (eT : T.heap = h) (A : Arv Z h a k .int z vs dv) (hj : ¬ j < 0 ∧ j < z) (hv : vs.getD j.toNatClampNeg dv = v) {pc : Nat} {Ls : Array Slot} {rest : List Value} (hd : decode c.code pc = .ok (.iaload, 1))
    (K : ownFin p e below F Q (T.setTop (mkF m (pc + 1) Ls (v :: rest)))) : ownFin p e below F Q (T.setTop (mkF m pc Ls (.int j :: .ref a :: rest))) := by
  obtain ⟨cl, Ar, -, Sz, Nz, H, -⟩ := A
  have hin := inb_of Sz hj
  exact ownVia (fun t k => X.iaload hx (by rw [eT]; exact Ar.1) (State.isArrayOf_alike hZ.alike Ar.2.1) Ar.2.2 hin (H.at hin hv) (g := mkF m pc Ls (.int j :: .ref a :: rest)) rfl rfl hd t k) K
theorem ownLaload {a : Addr} {k : ClassId} {z j : Int32} {vs : List Value} {dv v : Value} (X : Stand p l e R s m args below meth c T locs cells slots) (hx : p.tables.exec = Jvm.exec) (hZ : Z.Warmed39 s.vm) (eT : T.heap = h) (A : Arv Z h a k .long z vs dv) (hj : ¬ j < 0 ∧ j < z) (hv : vs.getD j.toNatClampNeg dv = v) {pc : Nat} {Ls : Array Slot} {rest : List Value} (hd : decode c.code pc = .ok (.laload, 1))
    (K : ownFin p e below F Q (T.setTop (mkF m (pc + 1) Ls (v :: rest)))) : ownFin p e below F Q (T.setTop (mkF m pc Ls (.int j :: .ref a :: rest))) := by
  obtain ⟨cl, Ar, -, Sz, Nz, H, -⟩ := A
  have hin := inb_of Sz hj
  exact ownVia (fun t k => X.laload hx (by rw [eT]; exact Ar.1) (State.isArrayOf_alike hZ.alike Ar.2.1) Ar.2.2 hin (H.at hin hv) (g := mkF m pc Ls (.int j :: .ref a :: rest)) rfl rfl hd t k) K
theorem ownBastore {a : Addr} {k : ClassId} {z j x : Int32} {vs : List Value} {dv : Value} {n0 : Nat} (X : Stand p l e R s m args below meth c T locs cells slots) (hx : p.tables.exec = Jvm.exec) (hZ : Z.Warmed39 s.vm) (eT : T.heap = h) (A : Arv Z h a k .byte z vs dv) (hj : ¬ j < 0 ∧ j < z) (i : Nat) (hi : j.toNatClampNeg = i) (hl : i < vs.length) (N : Fr n0 locs) (ge : n0 ≤ a) {pc : Nat} {Ls : Array Slot} {rest : List Value} (hd : decode c.code pc = .ok (.bastore, 1))
    (K : ∀ T' h' L', Stand p l e R s m args below meth c T' L' cells slots → T'.heap = h' → Fr n0 L' → Wr h h' a i (.int (nar .byte x)) → Arv Z h' a k .byte z (vs.set i (.int (nar .byte x))) dv → ownFin p e below F Q (T'.setTop (mkF m (pc + 1) Ls rest))) :
    ownFin p e below F Q (T.setTop (mkF m pc Ls (.int x :: .int j :: .ref a :: rest))) := by
  obtain ⟨cl, Ar, q1, Sz, Nz, H, G⟩ := A
  obtain ⟨T', h', X', e', W, st⟩ := stB X hx hZ eT Ar (j := j) (x := x) (inb_of Sz hj) (g := mkF m pc Ls (.int x :: .int j :: .ref a :: rest)) rfl rfl hd
  have N' := Fr.snoc X' N ge
  have A' := Arv.set Ar q1 Sz Nz H G (fits_nar_byte x) W i hi hl
  rw [hi] at W
  exact ownVia st (K T' h' _ X' e' N' W A')
theorem ownIastore {a : Addr} {k : ClassId} {z j x : Int32} {vs : List Value} {dv : Value} {n0 : Nat} (X : Stand p l e R s m args below meth c T locs cells slots) (hx : p.tables.exec = Jvm.exec) (hZ : Z.Warmed39 s.vm) (eT : T.heap = h) (A : Arv Z h a k .int z vs dv) (hj : ¬ j < 0 ∧ j < z) (i : Nat) (hi : j.toNatClampNeg = i) (hl : i < vs.length) (N : Fr n0 locs) (ge : n0 ≤ a) {pc : Nat} {Ls : Array Slot} {rest : List Value} (hd : decode c.code pc = .ok (.iastore, 1))
    (K : ∀ T' h' L', Stand p l e R s m args below meth c T' L' cells slots → T'.heap = h' → Fr n0 L' → Wr h h' a i (.int x) → Arv Z h' a k .int z (vs.set i (.int x)) dv → ownFin p e below F Q (T'.setTop (mkF m (pc + 1) Ls rest))) :
    ownFin p e below F Q (T.setTop (mkF m pc Ls (.int x :: .int j :: .ref a :: rest))) := by
  obtain ⟨cl, Ar, q1, Sz, Nz, H, G⟩ := A
  obtain ⟨T', h', X', e', W, st⟩ := stI X hx hZ eT Ar (j := j) (x := x) (inb_of Sz hj) (g := mkF m pc Ls (.int x :: .int j :: .ref a :: rest)) rfl rfl hd
  have N' := Fr.snoc X' N ge
  have A' := Arv.set Ar q1 Sz Nz H G rfl W i hi hl
  rw [hi] at W
  exact ownVia st (K T' h' _ X' e' N' W A')
theorem ownLastore {a : Addr} {k : ClassId} {z j : Int32} {x : Int64} {vs : List Value} {dv : Value} {n0 : Nat} (X : Stand p l e R s m args below meth c T locs cells slots) (hx : p.tables.exec = Jvm.exec) (hZ : Z.Warmed39 s.vm) (eT : T.heap = h) (A : Arv Z h a k .long z vs dv) (hj : ¬ j < 0 ∧ j < z) (i : Nat) (hi : j.toNatClampNeg = i) (hl : i < vs.length) (N : Fr n0 locs) (ge : n0 ≤ a) {pc : Nat} {Ls : Array Slot} {rest : List Value} (hd : decode c.code pc = .ok (.lastore, 1))
    (K : ∀ T' h' L', Stand p l e R s m args below meth c T' L' cells slots → T'.heap = h' → Fr n0 L' → Wr h h' a i (.long x) → Arv Z h' a k .long z (vs.set i (.long x)) dv → ownFin p e below F Q (T'.setTop (mkF m (pc + 1) Ls rest))) :
    ownFin p e below F Q (T.setTop (mkF m pc Ls (.long x :: .int j :: .ref a :: rest))) := by
  obtain ⟨cl, Ar, q1, Sz, Nz, H, G⟩ := A
  obtain ⟨T', h', X', e', W, st⟩ := stJ X hx hZ eT Ar (j := j) (x := x) (inb_of Sz hj) (g := mkF m pc Ls (.long x :: .int j :: .ref a :: rest)) rfl rfl hd
  have N' := Fr.snoc X' N ge
  have A' := Arv.set Ar q1 Sz Nz H G rfl W i hi hl
  rw [hi] at W
  exact ownVia st (K T' h' _ X' e' N' W A')
theorem ownNewP {aty : ArrayType} {n : Int32} (X : Stand p l e R s m args below meth c T locs cells slots) (hx : p.tables.exec = Jvm.exec) (hZ : Z.Warmed39 s.vm) (w : (Jvm.Cond.arrayClass (newarray.typeOf aty)).before a0 Z = true) (eT : T.heap = h) (ad : String) (had : "[" ++ (newarray.typeOf aty).toString = ad) (hn : ¬ n < 0) (N : Nat) (hN : n.toNatClampNeg = N) (cap : Nat) (hcap : N ≤ cap) (hb : cap * 8 ≤ 536870912) (hc : cells + 1 ≤ R.cells) (hl : slots + cap ≤ R.slots)
    {pc : Nat} {Ls : Array Slot} {rest : List Value} (hd : decode c.code pc = .ok (.newarray aty, 2))
    (K : ∀ T' h' k a, a = h.size → Stand p l e R s m args below meth c T' locs (cells + 1) (slots + cap) → T'.heap = h' → Ext h h' → Arv Z h' a k (newarray.typeOf aty) n (List.replicate N (defaultValue (newarray.typeOf aty))) (defaultValue (newarray.typeOf aty)) → Exa Z h' a ad → ownFin p e below F Q (T'.setTop (mkF m (pc + 2) Ls (.ref a :: rest)))) :
    ownFin p e below F Q (T.setTop (mkF m pc Ls (.int n :: rest))) := by
  obtain ⟨T', h', k, X', e', E, A, Ex, st⟩ := newPE X hx hZ w eT (g := mkF m pc Ls (.int n :: rest)) rfl hd rfl hn (cap := cap) (by rw [hN]; exact hcap) hb hc hl had
  exact ownVia st (K T' h' k _ rfl X' e' E ((Arv.new A hn).pad (pad_rep [] _ _)) Ex)
theorem ownClone {own : String} {index : Nat} {a : Addr} {k : ClassId} {ty : FieldType} {z : Int32} {vs : List Value} {dv : Value} {ad : String} (X : Stand p l e R s m args below meth c T locs cells slots) (hx : p.tables.exec = Jvm.exec) (hZ : Z.Warmed39 s.vm) (hown : s.vm.findClass own = some m.cls)
    (w1 : (Jvm.Cond.methodLink own index ⟨ad, "clone", "()Ljava/lang/Object;"⟩).before a0 Z = true) (w2 : (Jvm.Cond.sameMethod ad "java/lang/Object" "clone" "()Ljava/lang/Object;").before a0 Z = true) (w3 : (Jvm.Cond.native ⟨"java/lang/Object", "clone", "()Ljava/lang/Object;"⟩).before a0 Z = true)
    (w4 : (Jvm.Cond.instanceMethod ⟨"java/lang/Object", "clone", "()Ljava/lang/Object;"⟩).before a0 Z = true) (w5 : (Jvm.Cond.selects ad ⟨ad, "clone", "()Ljava/lang/Object;"⟩ ⟨"java/lang/Object", "clone", "()Ljava/lang/Object;"⟩).before a0 Z = true) (w6 : (Jvm.Cond.castable ad "java/lang/Cloneable").before a0 Z = true)
    (eT : T.heap = h) (A : Arv Z h a k ty z vs dv) (E : Exa Z h a ad) {pc : Nat} {Ls : Array Slot} {rest : List Value} (hsz : Ls.size = c.maxLocals) (hd : decode c.code pc = .ok (.invokevirtual index, 3)) (hf : 1 ≤ R.frames) (W : Nat) (hW : (rest.map fun v => v.category).sum = W) (hlo : W + 14 ≤ R.locals) (cap : Nat) (hcap : z.toNatClampNeg ≤ cap) (hc : cells + 1 ≤ R.cells) (hsl : slots + cap ≤ R.slots)
    (K : ∀ T' h' b, b = h.size → Stand p l e R s m args below meth c T' locs (cells + 1) (slots + cap) → T'.heap = h' → Ext h h' → Arv Z h' b k ty z vs dv → Exa Z h' b ad → ownFin p e below F Q (T'.setTop (mkF m (pc + 3) Ls (.ref b :: rest)))) :
    ownFin p e below F Q (T.setTop (mkF m pc Ls (.ref a :: rest))) := by
  obtain ⟨T', h', X', e', Ex, A', E', st⟩ := cloneH X hx hZ hown w1 w2 w3 w4 w5 w6 eT A.arh E (g := mkF m pc Ls (.ref a :: rest)) rfl hsz rfl hd hf (W := W) (by show 2 * 0 + _ ≤ _; omega) hlo hcap hc hsl
  exact ownVia st (K T' h' _ rfl X' e' Ex A' E')
theorem ownCallP {own : String} {index : Nat} {y y2 : MethodName} {bytes : ByteArray} {maxL : Nat} {ret : Option FieldType} {rm : Room} {as' : Array Value} {Q' : Option Value → Heap → List Loc → Prop} {C' : String}
    (X : Stand p l e R s m args below meth c T locs cells slots) (hx : p.tables.exec = Jvm.exec) (hZ : Z.Warmed39 s.vm) (hown : s.vm.findClass own = some m.cls)
    (w1 : (Jvm.Cond.methodLink own index y).before a0 Z = true) (w2 : (Jvm.Cond.privateMethod y).before a0 Z = true) (w5 : (Jvm.Cond.selects y2.cls y2 y2).before a0 Z = true) (hc2 : y2.cls = y.cls) (w7 : (Jvm.Cond.instanceMethod y).before a0 Z = true) (w3 : (Jvm.Cond.initialized y.cls).before a0 Z = true) (w4 : (Jvm.Cond.code y bytes maxL ret).before a0 Z = true)
    (hy : y.cls ≠ "java/lang/invoke/MethodHandle" ∧ y.cls ≠ "java/lang/invoke/VarHandle") (eT : T.heap = h) {a : Addr} (E : Exa Z h a C') (hM : ownMet l Z y bytes maxL ret [] rm as' h Q')
    {pc : Nat} {Ls : Array Slot} {st : List Value} (hsz : Ls.size = c.maxLocals) (argsL rest : List Value) (hlen : ∀ sig, parseMethodDescriptor y.desc = some sig → argsL.length = sig.parameters.length)
    (hst : st = argsL.reverse ++ .ref a :: rest) (has : (Value.ref a :: argsL).toArray = as') (W : Nat) (hW : (rest.map fun v => v.category).sum = W) (hd : decode c.code pc = .ok (.invokevirtual index, 3))
    (hfr : rm.frames + 1 ≤ R.frames) (hlo : W + (maxL + 11) + rm.locals ≤ R.locals) (hce : cells + rm.cells ≤ R.cells) (hsl : slots + rm.slots ≤ R.slots)
    (K : ∀ v T' L', Stand p l e R s m args below meth c T' (locs ++ L') (cells + rm.cells) (slots + rm.slots) → Q' v T'.heap L' → ownFin p e below F Q (T'.setTop (mkF m (pc + 3) Ls (v.toList ++ rest)))) :
    ownFin p e below F Q (T.setTop (mkF m pc Ls st)) := by
  have hpriv : s.PrivateAt y := Cond.privateMethod_at (mvP hZ w2 (args := #[]))
  have hsel2 : (Jvm.Cond.selects y2.cls y2 y2).before args s = true := mvT hZ w5
  obtain ⟨c2, r2, m2, q1, q2, q3, q4, kP, hkP, hkPi⟩ := Cond.selects_spec hsel2
  have hf2 := findClass_of_methodNamed q3
  rw [hc2] at hf2
  have hsel : (Jvm.Cond.selects y.cls y y).before args s = true := selects_self_of_private hf2 hkP hkPi hpriv (mvT hZ w7) hy
  obtain ⟨cq, qc1, qc2⟩ := E.cell
  obtain ⟨v, _, ⟨T2, L2, k2, n2⟩, -, X2, ⟨Lc2, hQ2, l2, y2', z2⟩, st2⟩ := X.privateBack hx (y := y) hown (mvT hZ w1) (mvT hZ w7) hsel hpriv (mvT hZ w4) hy (backOf (W := W) hM hZ w4 w3 hfr hlo) (g := mkF m pc Ls st) rfl hsz (Steps.refl _) (a := a) (by rw [eT]; exact qc1) qc2 (argsL := argsL) (rest := rest) hlen hst (by show 2 * 0 + _ ≤ _; omega) hd (fun _ _ => ⟨has, eT, hce, hsl⟩)
  dsimp only [Pt.U, Pt.locs, Pt.cells, Pt.slots] at X2 l2 y2' z2 st2 hQ2
  subst l2 y2' z2
  exact ownVia (fun _ k => st2.trans k) (K v T2 Lc2 X2 hQ2)
theorem ownCast {own K' : String} {index : Nat} {a : Addr} (X : Stand p l e R s m args below meth c T locs cells slots) (hx : p.tables.exec = Jvm.exec) (hZ : Z.Warmed39 s.vm) (hown : s.vm.findClass own = some m.cls) (w : (Jvm.Cond.classLink own index K').before a0 Z = true) (eT : T.heap = h) (FI : Ins Z h a K' true) {pc : Nat} {Ls : Array Slot} {rest : List Value} (hd : decode c.code pc = .ok (.checkcast index, 3))
    (K : ∀ T', Stand p l e R s m args below meth c T' locs cells slots → T'.heap = h → ownFin p e below F Q (T'.setTop (mkF m (pc + 3) Ls (.ref a :: rest)))) : ownFin p e below F Q (T.setTop (mkF m pc Ls (.ref a :: rest))) := by
  obtain ⟨T', X', e', st⟩ := castY X hx hZ hown w eT FI (g := mkF m pc Ls (.ref a :: rest)) rfl rfl hd
  exact ownVia st (K T' X' e')
theorem own_clamp {j : Int32} {n : Nat} (h : j.toInt = (n : Int)) : j.toNatClampNeg = n := by
  show j.toInt.toNat = n
  rw [h]; rfl
theorem own_nneg {j : Int32} {n : Nat} (h : j.toInt = (n : Int)) : ¬ j < 0 := fun q => by
  have := Int32.lt_iff_toInt_lt.mp q
  have k0 : (0 : Int32).toInt = 0 := by decide
  omega
theorem ownCopy {own : String} {index : Nat} {a b : Addr} {k k' : ClassId} {ty : FieldType} {z z' sp dp nn : Int32} {vs vd : List Value} {dv dd : Value} {n0 : Nat} (X : Stand p l e R s m args below meth c T locs cells slots) (hx : p.tables.exec = Jvm.exec) (hZ : Z.Warmed39 s.vm) (hown : s.vm.findClass own = some m.cls)
    (w1 : (Jvm.Cond.methodLink own index Jvm.Stand.acN).before a0 Z = true) (w2 : (Jvm.Cond.native Jvm.Stand.acN).before a0 Z = true) (w3 : (Jvm.Cond.static Jvm.Stand.acN).before a0 Z = true) (w4 : (Jvm.Cond.initialized "java/lang/System").before a0 Z = true) (eT : T.heap = h)
    (A : Arv Z h a k ty z vs dv) (B : Arv Z h b k' ty z' vd dd) (hty : refKind ty = false) (i j n lz lz' : Nat) (hi : sp.toInt = (i : Int)) (hj : dp.toInt = (j : Int)) (hn : nn.toInt = (n : Int)) (hz : z.toInt = (lz : Int)) (hz' : z'.toInt = (lz' : Int)) (h4 : i + n ≤ lz) (h5 : j + n ≤ lz') (hl : j + n ≤ vd.length) (N : Fr n0 locs) (ge : n0 ≤ b)
    {pc : Nat} {Ls : Array Slot} {rest : List Value} (hsz : Ls.size = c.maxLocals) (hd : decode c.code pc = .ok (.invokestatic index, 3)) (hf : 1 ≤ R.frames) (W : Nat) (hW : (rest.map fun v => v.category).sum = W) (hlo : W + (nativeFrameWords "java/lang/System" "arraycopy" 5 + 11) ≤ R.locals)
    (K : ∀ T' h' L', Stand p l e R s m args below meth c T' L' cells slots → T'.heap = h' → Fr n0 L' → Keep h h' [b] → Arv Z h' b k' ty z' (vd.take j ++ ((List.range n).map fun x => vs.getD (i + x) dv) ++ vd.drop (j + n)) dd → ownFin p e below F Q (T'.setTop (mkF m (pc + 3) Ls rest))) :
    ownFin p e below F Q (T.setTop (mkF m pc Ls (.int nn :: .int dp :: .ref b :: .int sp :: .ref a :: rest))) := by
  have e1 := own_clamp hi
  have e2 := own_clamp hj
  have e3 := own_clamp hn
  have e4 := own_clamp hz
  have e5 := own_clamp hz'
  obtain ⟨T', h', L', X', e', N', K', B', st⟩ := cpA X hx hZ hown w1 w2 w3 w4 eT A B (Or.inl ⟨rfl, hty⟩) (own_nneg hi) (own_nneg hj) (own_nneg hn) (by omega) (by omega) rfl (by omega) N ge (g := mkF m pc Ls (.int nn :: .int dp :: .ref b :: .int sp :: .ref a :: rest)) rfl hsz rfl hd hf (W := W) (by show 2 * 0 + _ ≤ _; omega) hlo
  rw [e1, e2, e3] at B'
  exact ownVia st (K T' h' L' X' e' N' K' B')
theorem own_lti {a b : Int32} {x y : Int} (ha : a.toInt = x) (hb : b.toInt = y) : a < b ↔ x < y := by rw [Int32.lt_iff_toInt_lt, ha, hb]
theorem own_sub {a b : Int32} {i j : Nat} (ha : a.toInt = (i : Int)) (hb : b.toInt = (j : Int)) (h : j ≤ i) : (a - b).toInt = ((i - j : Nat) : Int) := by
  have h1 := c_isub a b
  have h2 := rng32 (a - b)
  have h3 := rng32 a
  have h4 := rng32 b
  omega
theorem own_add {a b : Int32} {i j : Nat} (ha : a.toInt = (i : Int)) (hb : b.toInt = (j : Int)) (h : i + j < 2147483648) : (a + b).toInt = ((i + j : Nat) : Int) := by
  have h1 := c_iadd a b
  have h2 := rng32 (a + b)
  omega
theorem own_nlt {a b : Int32} {i j : Int} (ha : a.toInt = i) (hb : b.toInt = j) (h : j ≤ i) : ¬ a < b := fun q => by
  have := (own_lti ha hb).mp q
  omega
theorem own_enum {args : Array Value} {C n d K : String} (hx : (Jvm.Cond.exactly (.static C n d) K).value args s none s [] = some true) (wi : (Jvm.Cond.initialized C).before args s = true) (wl : (Jvm.Cond.laysStatic C n d).before args s = true) :
    ∃ a, (Term.static C n d).eval args s none [] s = some (.ref a) ∧ Sta s s.heap C n d (.ref a) ∧ Exa s s.heap a K := by
  obtain ⟨a, ev⟩ := exa_v hx
  exact ⟨a, ev, Sta.start ev (Or.inr ⟨wi, wl⟩), Exa.start ev hx⟩
theorem own_eqv {args : Array Value} {t : Term} {k : Int32} (hf : (Jvm.Cond.eq t (.int k)).value args s none s [] = some true) : t.eval args s none [] s = some (.int k) := by
  cases hv : t.eval args s none [] s with
  | none => simp [Cond.value, hv] at hf
  | some v =>
    cases v <;> simp [Cond.value, hv, Term.eval] at hf
    rw [hf]
theorem own_efld {args : Array Value} {t : Term} {a : Addr} {C n d : String} {k : Int32} (ev : t.eval args s none [] s = some (.ref a)) (hf : (Jvm.Cond.eq (.field t C n d) (.int k)).value args s none s [] = some true) : Fld s s.heap a C n d (.int k) :=
  Fld.start ((fld_at ev).symm.trans (own_eqv hf))
theorem own_iff_f {A B P : Prop} (hA : ¬ A) (h : P ↔ A ∨ B) : P ↔ B := by simpa [hA] using h
theorem own_iff_t {A B P : Prop} (hA : A) (h : P ↔ A ∨ B) : P := h.mpr (Or.inl hA)
theorem own_ref_ne {a b : Addr} (h : a ≠ b) : ¬ (Value.ref a) = .ref b := fun q => h (by cases q; rfl)
theorem own_sz {n0 : Nat} {h' : Heap} (q : n0 ≤ h.size) (E : Ext h h') : n0 ≤ h'.size := Nat.le_trans q E.1
theorem own_szW {n0 : Nat} {h' : Heap} {a : Addr} {sl : Nat} {v : Value} (q : n0 ≤ h.size) (W : Wr h h' a sl v) : n0 ≤ h'.size := by rw [W.size]; exact q
theorem own_eqi {a b : Int32} {x y : Int} (ha : a.toInt = x) (hb : b.toInt = y) : a = b ↔ x = y := by rw [← Int32.toInt_inj, ha, hb]
theorem own_ltl {a b : Int64} {x y : Int} (ha : a.toInt = x) (hb : b.toInt = y) : a < b ↔ x < y := by rw [Int64.lt_iff_toInt_lt, ha, hb]
theorem own_eql {a b : Int64} {x y : Int} (ha : a.toInt = x) (hb : b.toInt = y) : a = b ↔ x = y := by rw [← Int64.toInt_inj, ha, hb]
theorem own_getD_map {α β : Type} (f : α → β) (d : α) (xs : List α) (n : Nat) : (xs.map f).getD n (f d) = f (xs.getD n d) := by
  simp only [List.getD_eq_getElem?_getD, List.getElem?_map]
  cases xs[n]? <;> rfl
theorem own_idx {j z : Int32} {zi : Int} (hz : z.toInt = zi) (h1 : 0 ≤ j.toInt) (h2 : j.toInt < zi) : ¬ j < 0 ∧ j < z := ⟨fun q => by have := (own_lti rfl (by decide : (0 : Int32).toInt = 0)).mp q; omega, Int32.lt_iff_toInt_lt.mpr (by rw [hz]; exact h2)⟩
end Own
def own_mn (a b : Int32) : Int32 := if b < a then b else a
theorem own_mn_t {a b : Int32} (h : b < a) : own_mn a b = b := if_pos h
theorem own_mn_f {a b : Int32} (h : ¬ b < a) : own_mn a b = a := if_neg h
theorem own_mn_int (a b : Int32) : (own_mn a b).toInt = if b.toInt < a.toInt then b.toInt else a.toInt := by
  by_cases h : b < a
  · rw [own_mn_t h, if_pos (Int32.lt_iff_toInt_lt.mp h)]
  · rw [own_mn_f h, if_neg (fun q => h (Int32.lt_iff_toInt_lt.mpr q))]
theorem own_splice {vd us : List Value} {n : Nat} (h : vd.length = n) : vd.take 0 ++ us ++ vd.drop (0 + n) = us := by
  subst h
  simp
theorem own_all {vs : List Value} {n : Nat} {d : Value} (h : vs.length = n) : ((List.range n).map fun x => vs.getD (0 + x) d) = vs := by
  subst h
  apply List.ext_getElem
  · simp
  · intro i h1 h2
    simp at h1
    simp [List.getD_eq_getElem?_getD, h1]
theorem own_all' {vs : List Value} {n : Nat} {d : Value} (h : vs.length = n) : ((List.range n).map fun x => vs.getD x d) = vs := by
  subst h
  apply List.ext_getElem
  · simp
  · intro i h1 h2
    simp at h1
    simp [List.getD_eq_getElem?_getD, h1]
theorem own_grow {vs : List Value} {n lz k : Nat} {d : Value} (h : vs.length = lz) (hk : k = if n < lz then n else lz) : (List.replicate n d).take 0 ++ ((List.range k).map fun x => vs.getD (0 + x) d) ++ (List.replicate n d).drop (0 + k) = (List.range n).map fun x => vs.getD x d := by
  subst h
  have hkn : k ≤ n := by split at hk <;> omega
  apply List.ext_getElem
  · simp; omega
  · intro i h1 h2
    simp at h2
    by_cases q : i < k
    · rw [List.getElem_append_left (by simp; omega), List.getElem_append_right (by simp)]
      simp
    · rw [List.getElem_append_right (by simp; omega)]
      simp
      have : vs.length ≤ i := by split at hk <;> omega
      simp [List.getD_eq_getElem?_getD, this]

theorem own_shr {x : Int32} {k : Nat} (h : ¬ x.toInt < 128) (hx : x.toInt < 128 ^ (k + 1 + 1)) : ((x.toUInt32 >>> ((7 : Int32) &&& 31).toUInt32).toInt32).toInt < 128 ^ (k + 1) := by
  have a := c_iushr x 7 7 (by decide) (by decide)
  have b := rng32 x
  rw [a]
  have e : x.toInt % 4294967296 = x.toInt := by omega
  rw [e]
  apply Int.ediv_lt_of_lt_mul (by decide)
  rw [Int.pow_succ] at hx
  exact hx
theorem own_val {vh vk : List Value} {lh lk x : Nat} {d : Value} (hx : x < lk) : ((((List.range (lh + lk)).map fun y => vh.getD y d).take lh) ++ ((List.range lk).map fun y => vk.getD (0 + y) d) ++ (((List.range (lh + lk)).map fun y => vh.getD y d).drop (lh + lk))).getD (lh + x) d = vk.getD x d := by
  have h1 : (((List.range (lh + lk)).map fun y => vh.getD y d).take lh).length = lh := by simp
  rw [List.getD_eq_getElem?_getD, List.append_assoc, List.getElem?_append_right (by omega), h1, Nat.add_sub_cancel_left, List.getElem?_append_left (by simp; exact hx), List.getElem?_map, List.getElem?_range hx]
  simp
theorem own_len (vh vk : List Value) (lh lk : Nat) (d : Value) : ((((List.range (lh + lk)).map fun y => vh.getD y d).take lh) ++ ((List.range lk).map fun y => vk.getD (0 + y) d) ++ (((List.range (lh + lk)).map fun y => vh.getD y d).drop (lh + lk))).length = lh + lk := by
  simp
theorem own_rg {us : List Value} {n i x : Nat} {d : Value} (hx : x < n) : ((List.range n).map fun y => us.getD (i + y) d).getD x d = us.getD (i + x) d := by
  rw [List.getD_eq_getElem?_getD, List.getElem?_map, List.getElem?_range hx]
  rfl
theorem d5_0 : decode jdk_29_method_69_code 0 = .ok (.iload_n 0, 1) := by decide +kernel
theorem d5_1 : decode jdk_29_method_69_code 1 = .ok (.iload_n 1, 1) := by decide +kernel
theorem d5_2 : decode jdk_29_method_69_code 2 = .ok (.if_icmp .gt 7, 3) := by decide +kernel
theorem d5_5 : decode jdk_29_method_69_code 5 = .ok (.iload_n 0, 1) := by decide +kernel
theorem d5_6 : decode jdk_29_method_69_code 6 = .ok (.goto 4, 3) := by decide +kernel
theorem d5_9 : decode jdk_29_method_69_code 9 = .ok (.iload_n 1, 1) := by decide +kernel
theorem d5_10 : decode jdk_29_method_69_code 10 = .ok (.ireturn, 1) := by decide +kernel
theorem own_ef1 (m : MethodId) (p1 : Int32) (p2 : Int32) : entryFrame m #[(.int p1), (.int p2)] 2 = mkF m 0 #[.val (.int p1), .val (.int p2)] [] := by first | (simp [entryFrame, mkF, argsToLocals, Value.category]; done) | rfl
def Q_own_min (Z : State) (p1 : Int32) (p2 : Int32) (h0 : Heap) (n0 : Nat)  : Option Value → Heap → List Loc → Prop := fun v h L => v = some (.int (own_mn p1 p2)) ∧ Fr n0 L ∧ h = h0
set_option maxRecDepth 65536 in
set_option maxHeartbeats 40000000 in
theorem own_min (l : Launch) (Z : State) (a0 : Array Value) (hw : ∀ d ∈ tables_1, d.before a0 Z = true)  (p1 : Int32) (p2 : Int32) (h0 : Heap) (n0 : Nat)  (Z0 : n0 ≤ h0.size)  :
    ownMet l Z (⟨"java/lang/Math", "min", "(II)I"⟩ : MethodName) jdk_29_method_69_code 2 (some .int) [] ({ frames := 0, cells := 0, slots := 0, locals := 0 } : Room) #[(.int p1), (.int p2)] h0 (Q_own_min Z p1 p2 h0 n0 ) := by
  refine ownBody (Jvm.Free.JP.mathPlain rfl (by decide +kernel)) ?_
  intro p e s m below meth c T0 hx hby hml hret hlk hZ hown hnm X0 e0
  have N0 : Fr n0 [] := Fr.nil n0
  refine ownVia (fun _ k => castTop (own_ef1 m p1 p2) k) ?_
  show ownFin _ _ _ _ _ (T0.setTop (mkF m 0 #[.val (.int p1), .val (.int p2)] []))
  refine ownVia (fun _ k => XS.iloadN X0.here hx rfl (hb hby d5_0) rfl k) ?_
  show ownFin _ _ _ _ _ (T0.setTop (mkF m 1 #[.val (.int p1), .val (.int p2)] [(.int p1)]))
  refine ownVia (fun _ k => XS.iloadN X0.here hx rfl (hb hby d5_1) rfl k) ?_
  show ownFin _ _ _ _ _ (T0.setTop (mkF m 2 #[.val (.int p1), .val (.int p2)] [(.int p2), (.int p1)]))
  by_cases hc2 : p2 < p1
  case pos =>
    have hc2I : p2.toInt < p1.toInt := (own_lti rfl rfl).mp hc2
    refine ownVia (fun _ k => XS.icmpYes X0.here hx rfl (pc0 := 2) (pc' := 9) rfl (hb hby d5_2) rfl (tlt hc2).2.2.1 (by decide) (by decide) k) ?_
    show ownFin _ _ _ _ _ (T0.setTop (mkF m 9 #[.val (.int p1), .val (.int p2)] []))
    refine ownVia (fun _ k => XS.iloadN X0.here hx rfl (hb hby d5_9) rfl k) ?_
    show ownFin _ _ _ _ _ (T0.setTop (mkF m 10 #[.val (.int p1), .val (.int p2)] [(.int p2)]))
    refine ownRetI X0 hx hlk hret (hb hby d5_10) (by decide) (by decide) ?_
    show (Q_own_min Z p1 p2 h0 n0 ) (some (.int p2)) T0.heap _
    rw [e0]
    exact ⟨by rw [own_mn_t hc2], N0, rfl⟩
  case neg =>
    have hc2I : ¬ p2.toInt < p1.toInt := fun q => hc2 ((own_lti rfl rfl).mpr q)
    refine ownVia (fun _ k => XS.icmpNo X0.here hx rfl (hb hby d5_2) rfl (flt hc2).2.2.1 k) ?_
    show ownFin _ _ _ _ _ (T0.setTop (mkF m 5 #[.val (.int p1), .val (.int p2)] []))
    refine ownVia (fun _ k => XS.iloadN X0.here hx rfl (hb hby d5_5) rfl k) ?_
    show ownFin _ _ _ _ _ (T0.setTop (mkF m 6 #[.val (.int p1), .val (.int p2)] [(.int p1)]))
    refine ownVia (fun _ k => XS.goto X0.here hx rfl (pc0 := 6) (pc' := 10) rfl (hb hby d5_6) (by decide) (by decide) k) ?_
    show ownFin _ _ _ _ _ (T0.setTop (mkF m 10 #[.val (.int p1), .val (.int p2)] [(.int p1)]))
    refine ownRetI X0 hx hlk hret (hb hby d5_10) (by decide) (by decide) ?_
    show (Q_own_min Z p1 p2 h0 n0 ) (some (.int p1)) T0.heap _
    rw [e0]
    exact ⟨by rw [own_mn_f hc2], N0, rfl⟩
theorem d10_0 : decode jdk_65_method_131_code 0 = .ok (.iload_n 1, 1) := by decide +kernel
theorem d10_1 : decode jdk_65_method_131_code 1 = .ok (.iload_n 0, 1) := by decide +kernel
theorem d10_2 : decode jdk_65_method_131_code 2 = .ok (.if_icmp .ge 35, 3) := by decide +kernel
theorem d10_5 : decode jdk_65_method_131_code 5 = .ok (.new 43, 3) := by decide +kernel
theorem d10_8 : decode jdk_65_method_131_code 8 = .ok (.dup, 1) := by decide +kernel
theorem d10_9 : decode jdk_65_method_131_code 9 = .ok (.new 45, 3) := by decide +kernel
theorem d10_12 : decode jdk_65_method_131_code 12 = .ok (.dup, 1) := by decide +kernel
theorem d10_13 : decode jdk_65_method_131_code 13 = .ok (.invokespecial 47, 3) := by decide +kernel
theorem d10_16 : decode jdk_65_method_131_code 16 = .ok (.iload_n 0, 1) := by decide +kernel
theorem d10_17 : decode jdk_65_method_131_code 17 = .ok (.invokevirtual 54, 3) := by decide +kernel
theorem d10_20 : decode jdk_65_method_131_code 20 = .ok (.ldc_w 337, 3) := by decide +kernel
theorem d10_23 : decode jdk_65_method_131_code 23 = .ok (.invokevirtual 50, 3) := by decide +kernel
theorem d10_26 : decode jdk_65_method_131_code 26 = .ok (.iload_n 1, 1) := by decide +kernel
theorem d10_27 : decode jdk_65_method_131_code 27 = .ok (.invokevirtual 54, 3) := by decide +kernel
theorem d10_30 : decode jdk_65_method_131_code 30 = .ok (.invokevirtual 61, 3) := by decide +kernel
theorem d10_33 : decode jdk_65_method_131_code 33 = .ok (.invokespecial 65, 3) := by decide +kernel
theorem d10_36 : decode jdk_65_method_131_code 36 = .ok (.athrow, 1) := by decide +kernel
theorem d10_37 : decode jdk_65_method_131_code 37 = .ok (.return_, 1) := by decide +kernel
theorem own_pn0 : plainName "java/util/Arrays" = true := by first | (simp [plainName, overriddenIn]; done) | decide +kernel
theorem own_ef3 (m : MethodId) (p1 : Int32) (p2 : Int32) : entryFrame m #[(.int p1), (.int p2)] 2 = mkF m 0 #[.val (.int p1), .val (.int p2)] [] := by first | (simp [entryFrame, mkF, argsToLocals, Value.category]; done) | rfl
def Q_own_cl (Z : State) (p1 : Int32) (p2 : Int32) (h0 : Heap) (n0 : Nat)  : Option Value → Heap → List Loc → Prop := fun v h L => v = none ∧ Fr n0 L ∧ h = h0
set_option maxRecDepth 65536 in
set_option maxHeartbeats 40000000 in
theorem own_cl (l : Launch) (Z : State) (a0 : Array Value) (hw : ∀ d ∈ tables_1, d.before a0 Z = true)  (p1 : Int32) (p2 : Int32) (h0 : Heap) (n0 : Nat)  (Z0 : n0 ≤ h0.size) (hcl : ¬ p2 < p1) :
    ownMet l Z (⟨"java/util/Arrays", "checkLength", "(II)V"⟩ : MethodName) jdk_65_method_131_code 2 none [] ({ frames := 0, cells := 0, slots := 0, locals := 0 } : Room) #[(.int p1), (.int p2)] h0 (Q_own_cl Z p1 p2 h0 n0 ) := by
  refine ownBody (plainFor_of_name own_pn0) ?_
  intro p e s m below meth c T0 hx hby hml hret hlk hZ hown hnm X0 e0
  have N0 : Fr n0 [] := Fr.nil n0
  refine ownVia (fun _ k => castTop (own_ef3 m p1 p2) k) ?_
  show ownFin _ _ _ _ _ (T0.setTop (mkF m 0 #[.val (.int p1), .val (.int p2)] []))
  refine ownVia (fun _ k => XS.iloadN X0.here hx rfl (hb hby d10_0) rfl k) ?_
  show ownFin _ _ _ _ _ (T0.setTop (mkF m 1 #[.val (.int p1), .val (.int p2)] [(.int p2)]))
  refine ownVia (fun _ k => XS.iloadN X0.here hx rfl (hb hby d10_1) rfl k) ?_
  show ownFin _ _ _ _ _ (T0.setTop (mkF m 2 #[.val (.int p1), .val (.int p2)] [(.int p1), (.int p2)]))
  refine ownVia (fun _ k => XS.icmpYes X0.here hx rfl (pc0 := 2) (pc' := 37) rfl (hb hby d10_2) rfl (flt hcl).2.1 (by decide) (by decide) k) ?_
  show ownFin _ _ _ _ _ (T0.setTop (mkF m 37 #[.val (.int p1), .val (.int p2)] []))
  refine ownRetV X0 hx hlk hret (hb hby d10_37) (by decide) (by decide) ?_
  show (Q_own_cl Z p1 p2 h0 n0 ) none T0.heap _
  rw [e0]
  exact ⟨rfl, N0, rfl⟩
theorem d9_0 : decode jdk_65_method_133_code 0 = .ok (.iload_n 1, 1) := by decide +kernel
theorem d9_1 : decode jdk_65_method_133_code 1 = .ok (.iload_n 2, 1) := by decide +kernel
theorem d9_2 : decode jdk_65_method_133_code 2 = .ok (.invokestatic 343, 3) := by decide +kernel
theorem d9_5 : decode jdk_65_method_133_code 5 = .ok (.iload_n 2, 1) := by decide +kernel
theorem d9_6 : decode jdk_65_method_133_code 6 = .ok (.iload_n 1, 1) := by decide +kernel
theorem d9_7 : decode jdk_65_method_133_code 7 = .ok (.isub, 1) := by decide +kernel
theorem d9_8 : decode jdk_65_method_133_code 8 = .ok (.istore_n 3, 1) := by decide +kernel
theorem d9_9 : decode jdk_65_method_133_code 9 = .ok (.iload_n 3, 1) := by decide +kernel
theorem d9_10 : decode jdk_65_method_133_code 10 = .ok (.newarray .byte, 2) := by decide +kernel
theorem d9_12 : decode jdk_65_method_133_code 12 = .ok (.astore 4, 2) := by decide +kernel
theorem d9_14 : decode jdk_65_method_133_code 14 = .ok (.aload_n 0, 1) := by decide +kernel
theorem d9_15 : decode jdk_65_method_133_code 15 = .ok (.iload_n 1, 1) := by decide +kernel
theorem d9_16 : decode jdk_65_method_133_code 16 = .ok (.aload 4, 2) := by decide +kernel
theorem d9_18 : decode jdk_65_method_133_code 18 = .ok (.iconst 0, 1) := by decide +kernel
theorem d9_19 : decode jdk_65_method_133_code 19 = .ok (.aload_n 0, 1) := by decide +kernel
theorem d9_20 : decode jdk_65_method_133_code 20 = .ok (.arraylength, 1) := by decide +kernel
theorem d9_21 : decode jdk_65_method_133_code 21 = .ok (.iload_n 1, 1) := by decide +kernel
theorem d9_22 : decode jdk_65_method_133_code 22 = .ok (.isub, 1) := by decide +kernel
theorem d9_23 : decode jdk_65_method_133_code 23 = .ok (.iload_n 3, 1) := by decide +kernel
theorem d9_24 : decode jdk_65_method_133_code 24 = .ok (.invokestatic 304, 3) := by decide +kernel
theorem d9_27 : decode jdk_65_method_133_code 27 = .ok (.invokestatic 150, 3) := by decide +kernel
theorem d9_30 : decode jdk_65_method_133_code 30 = .ok (.aload 4, 2) := by decide +kernel
theorem d9_32 : decode jdk_65_method_133_code 32 = .ok (.areturn, 1) := by decide +kernel
theorem own_ef4 (m : MethodId) (a1 : Addr) (p1 : Int32) (p2 : Int32) : entryFrame m #[(.ref a1), (.int p1), (.int p2)] 5 = mkF m 0 #[.val (.ref a1), .val (.int p1), .val (.int p2), .unset, .unset] [] := by first | (simp [entryFrame, mkF, argsToLocals, Value.category]; done) | rfl
def Q_own_crb (Z : State) (a1 : Addr) (p1 : Int32) (p2 : Int32) (h0 : Heap) (n0 : Nat) (k_a1 : ClassId) (z : Int32) (vs : List Value) (i j lz : Nat) : Option Value → Heap → List Loc → Prop := fun v h L => ∃ b kb, v = some (.ref b) ∧ Fr n0 L ∧ Keep h0 h [] ∧ h0.size ≤ b ∧ Exa Z h b "[B" ∧ Arv Z h b kb .byte (p2 - p1) ((List.range (j - i)).map fun x => vs.getD (i + x) (.int (0 : Int32))) (.int (0 : Int32))
theorem own_pd0 : parseMethodDescriptor "(II)V" = some ⟨[.int, .int], none⟩ := by decide +kernel
theorem own_pd1 : parseMethodDescriptor "(II)I" = some ⟨[.int, .int], some .int⟩ := by decide +kernel
set_option maxRecDepth 65536 in
set_option maxHeartbeats 40000000 in
theorem own_crb (l : Launch) (Z : State) (a0 : Array Value) (hw : ∀ d ∈ tables_1, d.before a0 Z = true)  (a1 : Addr) (p1 : Int32) (p2 : Int32) (h0 : Heap) (n0 : Nat) (k_a1 : ClassId) (z : Int32) (vs : List Value) (i j lz : Nat) (Z0 : n0 ≤ h0.size) (A_a1 : Arv Z h0 a1 k_a1 .byte z vs (.int (0 : Int32))) (E_a1 : Exa Z h0 a1 "[B") (hi : p1.toInt = (i : Int)) (hj : p2.toInt = (j : Int)) (hz : z.toInt = (lz : Int)) (hvl : vs.length = lz) (hij : i ≤ j) (hjz : j ≤ lz) (hcap : j - i ≤ 9) :
    ownMet l Z (⟨"java/util/Arrays", "copyOfRangeByte", "([BII)[B"⟩ : MethodName) jdk_65_method_133_code 5 (some (.array .byte)) [] ({ frames := 1, cells := 1, slots := 9, locals := 60 } : Room) #[(.ref a1), (.int p1), (.int p2)] h0 (Q_own_crb Z a1 p1 p2 h0 n0 k_a1 z vs i j lz) := by
  refine ownBody (plainFor_of_name own_pn0) ?_
  intro p e s m below meth c T0 hx hby hml hret hlk hZ hown hnm X0 e0
  have N0 : Fr n0 [] := Fr.nil n0
  refine ownVia (fun _ k => castTop (own_ef4 m a1 p1 p2) k) ?_
  show ownFin _ _ _ _ _ (T0.setTop (mkF m 0 #[.val (.ref a1), .val (.int p1), .val (.int p2), .unset, .unset] []))
  have K0 : Keep h0 h0 [] := Keep.refl _ _
  have hd : (p2 - p1).toInt = ((j - i : Nat) : Int) := own_sub hj hi hij
  refine ownVia (fun _ k => XS.iloadN X0.here hx rfl (hb hby d9_0) rfl k) ?_
  show ownFin _ _ _ _ _ (T0.setTop (mkF m 1 #[.val (.ref a1), .val (.int p1), .val (.int p2), .unset, .unset] [(.int p1)]))
  refine ownVia (fun _ k => XS.iloadN X0.here hx rfl (hb hby d9_1) rfl k) ?_
  show ownFin _ _ _ _ _ (T0.setTop (mkF m 2 #[.val (.ref a1), .val (.int p1), .val (.int p2), .unset, .unset] [(.int p2), (.int p1)]))
  refine ownCallS X0 hx hZ hown (hw _ (List.mem_of_getElem? (i := 46) rfl)) (hw _ (List.mem_of_getElem? (i := 47) rfl)) (hw _ (List.mem_of_getElem? (i := 15) rfl)) (hw _ (List.mem_of_getElem? (i := 48) rfl)) (by decide) e0 (own_cl l Z a0 hw p1 p2 h0 n0 Z0 (own_nlt hj hi (by omega))) (by rw [hml]; rfl) [(.int p1), (.int p2)] [] (lenOf own_pd0 rfl) rfl rfl 0 rfl (hb hby d9_2) (by decide) (by decide) (by decide) (by decide) ?_
  intro v5 T5 L5 X5 hq5
  obtain ⟨rfl, N5q, eq5⟩ := hq5
  have N5 := Fr.app N0 N5q
  have e5 : T5.heap = h0 := eq5
  show ownFin _ _ _ _ _ (T5.setTop (mkF m 5 #[.val (.ref a1), .val (.int p1), .val (.int p2), .unset, .unset] []))
  refine ownVia (fun _ k => XS.iloadN X5.here hx rfl (hb hby d9_5) rfl k) ?_
  show ownFin _ _ _ _ _ (T5.setTop (mkF m 6 #[.val (.ref a1), .val (.int p1), .val (.int p2), .unset, .unset] [(.int p2)]))
  refine ownVia (fun _ k => XS.iloadN X5.here hx rfl (hb hby d9_6) rfl k) ?_
  show ownFin _ _ _ _ _ (T5.setTop (mkF m 7 #[.val (.ref a1), .val (.int p1), .val (.int p2), .unset, .unset] [(.int p1), (.int p2)]))
  refine ownVia (fun _ k => XS.isub X5.here hx rfl (hb hby d9_7) rfl k) ?_
  show ownFin _ _ _ _ _ (T5.setTop (mkF m 8 #[.val (.ref a1), .val (.int p1), .val (.int p2), .unset, .unset] [(.int (p2 - p1))]))
  refine ownVia (fun _ k => XS.istoreN X5.here hx rfl (hb hby d9_8) rfl (l' := #[.val (.ref a1), .val (.int p1), .val (.int p2), .val (.int (p2 - p1)), .unset]) rfl k) ?_
  show ownFin _ _ _ _ _ (T5.setTop (mkF m 9 #[.val (.ref a1), .val (.int p1), .val (.int p2), .val (.int (p2 - p1)), .unset] []))
  refine ownVia (fun _ k => XS.iloadN X5.here hx rfl (hb hby d9_9) rfl k) ?_
  show ownFin _ _ _ _ _ (T5.setTop (mkF m 10 #[.val (.ref a1), .val (.int p1), .val (.int p2), .val (.int (p2 - p1)), .unset] [(.int (p2 - p1))]))
  refine ownNewP X5 hx hZ (hw _ (List.mem_of_getElem? (i := 0) rfl)) e5 "[B" (by decide) (own_nneg hd) (j - i) (own_clamp hd) (9) hcap (by decide) (by decide) (by decide) (hb hby d9_10) ?_
  intro T6 h6 k_b1 b1 g6 X6 e6 E6 A_b1 E_b1
  have ne_a1_b1 : a1 ≠ b1 := Nat.ne_of_lt (Nat.lt_of_lt_of_le A_a1.lt (Nat.le_of_eq g6.symm))
  have ge_b1 : n0 ≤ b1 := Nat.le_trans Z0 (Nat.le_of_eq g6.symm)
  have sz_b1 : h0.size ≤ b1 := Nat.le_trans K0.1 (Nat.le_of_eq g6.symm)
  have A_a1 := A_a1.ext E6
  have E_a1 := E_a1.ext E6
  have K0 := K0.ext E6
  have Z0 := own_sz Z0 E6
  have A_b1 : Arv Z h6 b1 k_b1 .byte (p2 - p1) (List.replicate (j - i) (.int (0 : Int32))) (.int (0 : Int32)) := A_b1
  show ownFin _ _ _ _ _ (T6.setTop (mkF m 12 #[.val (.ref a1), .val (.int p1), .val (.int p2), .val (.int (p2 - p1)), .unset] [(.ref b1)]))
  refine ownVia (fun _ k => XS.astore X6.here hx rfl (hb hby d9_12) rfl rfl (l' := #[.val (.ref a1), .val (.int p1), .val (.int p2), .val (.int (p2 - p1)), .val (.ref b1)]) rfl k) ?_
  show ownFin _ _ _ _ _ (T6.setTop (mkF m 14 #[.val (.ref a1), .val (.int p1), .val (.int p2), .val (.int (p2 - p1)), .val (.ref b1)] []))
  refine ownVia (fun _ k => XS.aloadN X6.here hx rfl (hb hby d9_14) rfl rfl k) ?_
  show ownFin _ _ _ _ _ (T6.setTop (mkF m 15 #[.val (.ref a1), .val (.int p1), .val (.int p2), .val (.int (p2 - p1)), .val (.ref b1)] [(.ref a1)]))
  refine ownVia (fun _ k => XS.iloadN X6.here hx rfl (hb hby d9_15) rfl k) ?_
  show ownFin _ _ _ _ _ (T6.setTop (mkF m 16 #[.val (.ref a1), .val (.int p1), .val (.int p2), .val (.int (p2 - p1)), .val (.ref b1)] [(.int p1), (.ref a1)]))
  refine ownVia (fun _ k => XS.aload X6.here hx rfl (hb hby d9_16) rfl rfl k) ?_
  show ownFin _ _ _ _ _ (T6.setTop (mkF m 18 #[.val (.ref a1), .val (.int p1), .val (.int p2), .val (.int (p2 - p1)), .val (.ref b1)] [(.ref b1), (.int p1), (.ref a1)]))
  refine ownVia (fun _ k => XS.iconst X6.here hx rfl (hb hby d9_18) k) ?_
  show ownFin _ _ _ _ _ (T6.setTop (mkF m 19 #[.val (.ref a1), .val (.int p1), .val (.int p2), .val (.int (p2 - p1)), .val (.ref b1)] [(.int (0 : Int32)), (.ref b1), (.int p1), (.ref a1)]))
  refine ownVia (fun _ k => XS.aloadN X6.here hx rfl (hb hby d9_19) rfl rfl k) ?_
  show ownFin _ _ _ _ _ (T6.setTop (mkF m 20 #[.val (.ref a1), .val (.int p1), .val (.int p2), .val (.int (p2 - p1)), .val (.ref b1)] [(.ref a1), (.int (0 : Int32)), (.ref b1), (.int p1), (.ref a1)]))
  refine ownLen X6 hx hZ e6 A_a1 (hb hby d9_20) ?_
  show ownFin _ _ _ _ _ (T6.setTop (mkF m 21 #[.val (.ref a1), .val (.int p1), .val (.int p2), .val (.int (p2 - p1)), .val (.ref b1)] [(.int z), (.int (0 : Int32)), (.ref b1), (.int p1), (.ref a1)]))
  refine ownVia (fun _ k => XS.iloadN X6.here hx rfl (hb hby d9_21) rfl k) ?_
  show ownFin _ _ _ _ _ (T6.setTop (mkF m 22 #[.val (.ref a1), .val (.int p1), .val (.int p2), .val (.int (p2 - p1)), .val (.ref b1)] [(.int p1), (.int z), (.int (0 : Int32)), (.ref b1), (.int p1), (.ref a1)]))
  refine ownVia (fun _ k => XS.isub X6.here hx rfl (hb hby d9_22) rfl k) ?_
  show ownFin _ _ _ _ _ (T6.setTop (mkF m 23 #[.val (.ref a1), .val (.int p1), .val (.int p2), .val (.int (p2 - p1)), .val (.ref b1)] [(.int (z - p1)), (.int (0 : Int32)), (.ref b1), (.int p1), (.ref a1)]))
  refine ownVia (fun _ k => XS.iloadN X6.here hx rfl (hb hby d9_23) rfl k) ?_
  show ownFin _ _ _ _ _ (T6.setTop (mkF m 24 #[.val (.ref a1), .val (.int p1), .val (.int p2), .val (.int (p2 - p1)), .val (.ref b1)] [(.int (p2 - p1)), (.int (z - p1)), (.int (0 : Int32)), (.ref b1), (.int p1), (.ref a1)]))
  refine ownCallS X6 hx hZ hown (hw _ (List.mem_of_getElem? (i := 17) rfl)) (hw _ (List.mem_of_getElem? (i := 18) rfl)) (hw _ (List.mem_of_getElem? (i := 19) rfl)) (hw _ (List.mem_of_getElem? (i := 20) rfl)) (by decide) e6 (own_min l Z a0 hw (z - p1) (p2 - p1) h6 n0 Z0) (by rw [hml]; rfl) [(.int (z - p1)), (.int (p2 - p1))] [(.int (0 : Int32)), (.ref b1), (.int p1), (.ref a1)] (lenOf own_pd1 rfl) rfl rfl 4 rfl (hb hby d9_24) (by decide) (by decide) (by decide) (by decide) ?_
  intro v7 T7 L7 X7 hq7
  obtain ⟨rfl, N7q, eq7⟩ := hq7
  have N7 := Fr.app N5 N7q
  have e7 : T7.heap = h6 := eq7
  show ownFin _ _ _ _ _ (T7.setTop (mkF m 27 #[.val (.ref a1), .val (.int p1), .val (.int p2), .val (.int (p2 - p1)), .val (.ref b1)] [(.int (own_mn (z - p1) (p2 - p1))), (.int (0 : Int32)), (.ref b1), (.int p1), (.ref a1)]))
  have hm : (own_mn (z - p1) (p2 - p1)).toInt = ((j - i : Nat) : Int) := by have q := own_sub hz hi (by omega); rw [own_mn_int, hd, q]; split <;> omega
  refine ownCopy X7 hx hZ hown (hw _ (List.mem_of_getElem? (i := 21) rfl)) (hw _ (List.mem_of_getElem? (i := 24) rfl)) (hw _ (List.mem_of_getElem? (i := 22) rfl)) (hw _ (List.mem_of_getElem? (i := 23) rfl)) e7 A_a1 A_b1 rfl (i) (0) (j - i) (lz) (j - i) hi (by decide) hm hz hd (by omega) (by omega) (by simp) N7 ge_b1 (by rw [hml]; rfl) (hb hby d9_27) (by decide) 0 rfl (by decide) ?_
  intro T8 h8 L8 X8 e8 N8 Kc8 A_b1
  have A_a1 := A_a1.keep Kc8 (ninS ne_a1_b1 nin0)
  have E_a1 := E_a1.keep Kc8
  have E_b1 := E_b1.keep Kc8
  have K0 := K0.trans Kc8 (allS (Or.inr sz_b1) all0)
  have Z0 := Nat.le_trans Z0 Kc8.1
  show ownFin _ _ _ _ _ (T8.setTop (mkF m 30 #[.val (.ref a1), .val (.int p1), .val (.int p2), .val (.int (p2 - p1)), .val (.ref b1)] []))
  rw [own_splice (by simp)] at A_b1
  refine ownVia (fun _ k => XS.aload X8.here hx rfl (hb hby d9_30) rfl rfl k) ?_
  show ownFin _ _ _ _ _ (T8.setTop (mkF m 32 #[.val (.ref a1), .val (.int p1), .val (.int p2), .val (.int (p2 - p1)), .val (.ref b1)] [(.ref b1)]))
  refine ownRetA X8 hx hlk (ty := (.array .byte)) hret rfl (hb hby d9_32) (by decide) (by decide) ?_
  show (Q_own_crb Z a1 p1 p2 h0 n0 k_a1 z vs i j lz) (some (.ref b1)) T8.heap _
  rw [e8]
  exact ⟨b1, k_b1, rfl, N8, K0, sz_b1, E_b1, A_b1⟩
theorem d8_0 : decode jdk_65_method_132_code 0 = .ok (.iload_n 1, 1) := by decide +kernel
theorem d8_1 : decode jdk_65_method_132_code 1 = .ok (.ifCond .ne 9, 3) := by decide +kernel
theorem d8_4 : decode jdk_65_method_132_code 4 = .ok (.iload_n 2, 1) := by decide +kernel
theorem d8_5 : decode jdk_65_method_132_code 5 = .ok (.aload_n 0, 1) := by decide +kernel
theorem d8_6 : decode jdk_65_method_132_code 6 = .ok (.arraylength, 1) := by decide +kernel
theorem d8_7 : decode jdk_65_method_132_code 7 = .ok (.if_icmp .eq 10, 3) := by decide +kernel
theorem d8_10 : decode jdk_65_method_132_code 10 = .ok (.aload_n 0, 1) := by decide +kernel
theorem d8_11 : decode jdk_65_method_132_code 11 = .ok (.iload_n 1, 1) := by decide +kernel
theorem d8_12 : decode jdk_65_method_132_code 12 = .ok (.iload_n 2, 1) := by decide +kernel
theorem d8_13 : decode jdk_65_method_132_code 13 = .ok (.invokestatic 339, 3) := by decide +kernel
theorem d8_16 : decode jdk_65_method_132_code 16 = .ok (.areturn, 1) := by decide +kernel
theorem d8_17 : decode jdk_65_method_132_code 17 = .ok (.aload_n 0, 1) := by decide +kernel
theorem d8_18 : decode jdk_65_method_132_code 18 = .ok (.invokevirtual 310, 3) := by decide +kernel
theorem d8_21 : decode jdk_65_method_132_code 21 = .ok (.checkcast 311, 3) := by decide +kernel
theorem d8_24 : decode jdk_65_method_132_code 24 = .ok (.areturn, 1) := by decide +kernel
theorem own_ef9 (m : MethodId) (a1 : Addr) (p1 : Int32) (p2 : Int32) : entryFrame m #[(.ref a1), (.int p1), (.int p2)] 3 = mkF m 0 #[.val (.ref a1), .val (.int p1), .val (.int p2)] [] := by first | (simp [entryFrame, mkF, argsToLocals, Value.category]; done) | rfl
def Q_own_cr (Z : State) (a1 : Addr) (p1 : Int32) (p2 : Int32) (h0 : Heap) (n0 : Nat) (k_a1 : ClassId) (z : Int32) (vs : List Value) (i j lz : Nat) : Option Value → Heap → List Loc → Prop := fun v h L => ∃ b kb, v = some (.ref b) ∧ Fr n0 L ∧ Keep h0 h [] ∧ h0.size ≤ b ∧ Exa Z h b "[B" ∧ Arv Z h b kb .byte (p2 - p1) ((List.range (j - i)).map fun x => vs.getD (i + x) (.int (0 : Int32))) (.int (0 : Int32))
theorem own_pd2 : parseMethodDescriptor "([BII)[B" = some ⟨[(.array .byte), .int, .int], some (.array .byte)⟩ := by decide +kernel
set_option maxRecDepth 65536 in
set_option maxHeartbeats 40000000 in
theorem own_cr (l : Launch) (Z : State) (a0 : Array Value) (hw : ∀ d ∈ tables_1, d.before a0 Z = true)  (a1 : Addr) (p1 : Int32) (p2 : Int32) (h0 : Heap) (n0 : Nat) (k_a1 : ClassId) (z : Int32) (vs : List Value) (i j lz : Nat) (Z0 : n0 ≤ h0.size) (A_a1 : Arv Z h0 a1 k_a1 .byte z vs (.int (0 : Int32))) (E_a1 : Exa Z h0 a1 "[B") (hi : p1.toInt = (i : Int)) (hj : p2.toInt = (j : Int)) (hz : z.toInt = (lz : Int)) (hvl : vs.length = lz) (hij : i ≤ j) (hjz : j ≤ lz) (hcap : j - i ≤ 9) :
    ownMet l Z (⟨"java/util/Arrays", "copyOfRange", "([BII)[B"⟩ : MethodName) jdk_65_method_132_code 3 (some (.array .byte)) [] ({ frames := 2, cells := 1, slots := 9, locals := 80 } : Room) #[(.ref a1), (.int p1), (.int p2)] h0 (Q_own_cr Z a1 p1 p2 h0 n0 k_a1 z vs i j lz) := by
  refine ownBody (plainFor_of_name own_pn0) ?_
  intro p e s m below meth c T0 hx hby hml hret hlk hZ hown hnm X0 e0
  have N0 : Fr n0 [] := Fr.nil n0
  refine ownVia (fun _ k => castTop (own_ef9 m a1 p1 p2) k) ?_
  show ownFin _ _ _ _ _ (T0.setTop (mkF m 0 #[.val (.ref a1), .val (.int p1), .val (.int p2)] []))
  have K0 : Keep h0 h0 [] := Keep.refl _ _
  refine ownVia (fun _ k => XS.iloadN X0.here hx rfl (hb hby d8_0) rfl k) ?_
  show ownFin _ _ _ _ _ (T0.setTop (mkF m 1 #[.val (.ref a1), .val (.int p1), .val (.int p2)] [(.int p1)]))
  by_cases hc10 : p1 = (0 : Int32)
  case pos =>
    have hc10I : (i : Int) = 0 := (own_eqi hi (by decide)).mp hc10
    refine ownVia (fun _ k => XS.ifNo X0.here hx rfl (hb hby d8_1) rfl ((if0 _ _).trans (teq hc10).2) k) ?_
    show ownFin _ _ _ _ _ (T0.setTop (mkF m 4 #[.val (.ref a1), .val (.int p1), .val (.int p2)] []))
    refine ownVia (fun _ k => XS.iloadN X0.here hx rfl (hb hby d8_4) rfl k) ?_
    show ownFin _ _ _ _ _ (T0.setTop (mkF m 5 #[.val (.ref a1), .val (.int p1), .val (.int p2)] [(.int p2)]))
    refine ownVia (fun _ k => XS.aloadN X0.here hx rfl (hb hby d8_5) rfl rfl k) ?_
    show ownFin _ _ _ _ _ (T0.setTop (mkF m 6 #[.val (.ref a1), .val (.int p1), .val (.int p2)] [(.ref a1), (.int p2)]))
    refine ownLen X0 hx hZ e0 A_a1 (hb hby d8_6) ?_
    show ownFin _ _ _ _ _ (T0.setTop (mkF m 7 #[.val (.ref a1), .val (.int p1), .val (.int p2)] [(.int z), (.int p2)]))
    by_cases hc11 : p2 = z
    case pos =>
      have hc11I : (j : Int) = (lz : Int) := (own_eqi hj hz).mp hc11
      refine ownVia (fun _ k => XS.icmpYes X0.here hx rfl (pc0 := 7) (pc' := 17) rfl (hb hby d8_7) rfl (teq hc11).1 (by decide) (by decide) k) ?_
      show ownFin _ _ _ _ _ (T0.setTop (mkF m 17 #[.val (.ref a1), .val (.int p1), .val (.int p2)] []))
      have hi0 : i = 0 := by omega
      have hjl : j = lz := by omega
      have hzz : p2 - p1 = z := Int32.toInt_inj.mp (by have q := own_sub hj hi hij; rw [q]; omega)
      refine ownVia (fun _ k => XS.aloadN X0.here hx rfl (hb hby d8_17) rfl rfl k) ?_
      show ownFin _ _ _ _ _ (T0.setTop (mkF m 18 #[.val (.ref a1), .val (.int p1), .val (.int p2)] [(.ref a1)]))
      refine ownClone X0 hx hZ hown (hw _ (List.mem_of_getElem? (i := 49) rfl)) (hw _ (List.mem_of_getElem? (i := 50) rfl)) (hw _ (List.mem_of_getElem? (i := 54) rfl)) (hw _ (List.mem_of_getElem? (i := 52) rfl)) (hw _ (List.mem_of_getElem? (i := 53) rfl)) (hw _ (List.mem_of_getElem? (i := 55) rfl)) e0 A_a1 E_a1 (by rw [hml]; rfl) (hb hby d8_18) (by decide) 0 rfl (by decide) (9) (by rw [own_clamp hz]; omega) (by decide) (by decide) ?_
      intro T12 h12 b1 g12 X12 e12 E12 A_b1 E_b1
      have ne_a1_b1 : a1 ≠ b1 := Nat.ne_of_lt (Nat.lt_of_lt_of_le A_a1.lt (Nat.le_of_eq g12.symm))
      have ge_b1 : n0 ≤ b1 := Nat.le_trans Z0 (Nat.le_of_eq g12.symm)
      have sz_b1 : h0.size ≤ b1 := Nat.le_trans K0.1 (Nat.le_of_eq g12.symm)
      have A_a1 := A_a1.ext E12
      have E_a1 := E_a1.ext E12
      have K0 := K0.ext E12
      have Z0 := own_sz Z0 E12
      show ownFin _ _ _ _ _ (T12.setTop (mkF m 21 #[.val (.ref a1), .val (.int p1), .val (.int p2)] [(.ref b1)]))
      refine ownCast X12 hx hZ hown (hw _ (List.mem_of_getElem? (i := 56) rfl)) e12 (Ins.self E_b1) (hb hby d8_21) ?_
      intro T13 X13 e13
      show ownFin _ _ _ _ _ (T13.setTop (mkF m 24 #[.val (.ref a1), .val (.int p1), .val (.int p2)] [(.ref b1)]))
      refine ownRetA X13 hx hlk (ty := (.array .byte)) hret rfl (hb hby d8_24) (by decide) (by decide) ?_
      show (Q_own_cr Z a1 p1 p2 h0 n0 k_a1 z vs i j lz) (some (.ref b1)) T13.heap _
      rw [e13]
      exact ⟨b1, k_a1, rfl, N0, K0, sz_b1, E_b1, by rw [hzz, hi0, hjl, Nat.sub_zero, own_all hvl]; exact A_b1⟩
    case neg =>
      have hc11I : ¬ (j : Int) = (lz : Int) := fun q => hc11 ((own_eqi hj hz).mpr q)
      refine ownVia (fun _ k => XS.icmpNo X0.here hx rfl (hb hby d8_7) rfl (feq hc11).1 k) ?_
      show ownFin _ _ _ _ _ (T0.setTop (mkF m 10 #[.val (.ref a1), .val (.int p1), .val (.int p2)] []))
      refine ownVia (fun _ k => XS.aloadN X0.here hx rfl (hb hby d8_10) rfl rfl k) ?_
      show ownFin _ _ _ _ _ (T0.setTop (mkF m 11 #[.val (.ref a1), .val (.int p1), .val (.int p2)] [(.ref a1)]))
      refine ownVia (fun _ k => XS.iloadN X0.here hx rfl (hb hby d8_11) rfl k) ?_
      show ownFin _ _ _ _ _ (T0.setTop (mkF m 12 #[.val (.ref a1), .val (.int p1), .val (.int p2)] [(.int p1), (.ref a1)]))
      refine ownVia (fun _ k => XS.iloadN X0.here hx rfl (hb hby d8_12) rfl k) ?_
      show ownFin _ _ _ _ _ (T0.setTop (mkF m 13 #[.val (.ref a1), .val (.int p1), .val (.int p2)] [(.int p2), (.int p1), (.ref a1)]))
      refine ownCallS X0 hx hZ hown (hw _ (List.mem_of_getElem? (i := 43) rfl)) (hw _ (List.mem_of_getElem? (i := 44) rfl)) (hw _ (List.mem_of_getElem? (i := 15) rfl)) (hw _ (List.mem_of_getElem? (i := 45) rfl)) (by decide) e0 (own_crb l Z a0 hw a1 p1 p2 h0 n0 k_a1 z vs i j lz Z0 A_a1 E_a1 hi hj hz hvl hij hjz hcap) (by rw [hml]; rfl) [(.ref a1), (.int p1), (.int p2)] [] (lenOf own_pd2 rfl) rfl rfl 0 rfl (hb hby d8_13) (by decide) (by decide) (by decide) (by decide) ?_
      intro v14 T14 L14 X14 hq14
      obtain ⟨b1, kb1, rfl, N14q, K14, sz_b1, E_b1, A_b1⟩ := hq14
      have N14 := Fr.app N0 N14q
      show ownFin _ _ _ _ _ (T14.setTop (mkF m 16 #[.val (.ref a1), .val (.int p1), .val (.int p2)] [(.ref b1)]))
      refine ownRetA X14 hx hlk (ty := (.array .byte)) hret rfl (hb hby d8_16) (by decide) (by decide) ?_
      show (Q_own_cr Z a1 p1 p2 h0 n0 k_a1 z vs i j lz) (some (.ref b1)) T14.heap _
      exact ⟨b1, kb1, rfl, N14, K14, sz_b1, E_b1, A_b1⟩
  case neg =>
    have hc10I : ¬ (i : Int) = 0 := fun q => hc10 ((own_eqi hi (by decide)).mpr q)
    refine ownVia (fun _ k => XS.ifYes X0.here hx rfl (pc0 := 1) (pc' := 10) rfl (hb hby d8_1) rfl ((if0 _ _).trans (feq hc10).2) (by decide) (by decide) k) ?_
    show ownFin _ _ _ _ _ (T0.setTop (mkF m 10 #[.val (.ref a1), .val (.int p1), .val (.int p2)] []))
    refine ownVia (fun _ k => XS.aloadN X0.here hx rfl (hb hby d8_10) rfl rfl k) ?_
    show ownFin _ _ _ _ _ (T0.setTop (mkF m 11 #[.val (.ref a1), .val (.int p1), .val (.int p2)] [(.ref a1)]))
    refine ownVia (fun _ k => XS.iloadN X0.here hx rfl (hb hby d8_11) rfl k) ?_
    show ownFin _ _ _ _ _ (T0.setTop (mkF m 12 #[.val (.ref a1), .val (.int p1), .val (.int p2)] [(.int p1), (.ref a1)]))
    refine ownVia (fun _ k => XS.iloadN X0.here hx rfl (hb hby d8_12) rfl k) ?_
    show ownFin _ _ _ _ _ (T0.setTop (mkF m 13 #[.val (.ref a1), .val (.int p1), .val (.int p2)] [(.int p2), (.int p1), (.ref a1)]))
    refine ownCallS X0 hx hZ hown (hw _ (List.mem_of_getElem? (i := 43) rfl)) (hw _ (List.mem_of_getElem? (i := 44) rfl)) (hw _ (List.mem_of_getElem? (i := 15) rfl)) (hw _ (List.mem_of_getElem? (i := 45) rfl)) (by decide) e0 (own_crb l Z a0 hw a1 p1 p2 h0 n0 k_a1 z vs i j lz Z0 A_a1 E_a1 hi hj hz hvl hij hjz hcap) (by rw [hml]; rfl) [(.ref a1), (.int p1), (.int p2)] [] (lenOf own_pd2 rfl) rfl rfl 0 rfl (hb hby d8_13) (by decide) (by decide) (by decide) (by decide) ?_
    intro v15 T15 L15 X15 hq15
    obtain ⟨b1, kb1, rfl, N15q, K15, sz_b1, E_b1, A_b1⟩ := hq15
    have N15 := Fr.app N0 N15q
    show ownFin _ _ _ _ _ (T15.setTop (mkF m 16 #[.val (.ref a1), .val (.int p1), .val (.int p2)] [(.ref b1)]))
    refine ownRetA X15 hx hlk (ty := (.array .byte)) hret rfl (hb hby d8_16) (by decide) (by decide) ?_
    show (Q_own_cr Z a1 p1 p2 h0 n0 k_a1 z vs i j lz) (some (.ref b1)) T15.heap _
    exact ⟨b1, kb1, rfl, N15, K15, sz_b1, E_b1, A_b1⟩
theorem d4_0 : decode jdk_65_method_121_code 0 = .ok (.iload_n 1, 1) := by decide +kernel
theorem d4_1 : decode jdk_65_method_121_code 1 = .ok (.aload_n 0, 1) := by decide +kernel
theorem d4_2 : decode jdk_65_method_121_code 2 = .ok (.arraylength, 1) := by decide +kernel
theorem d4_3 : decode jdk_65_method_121_code 3 = .ok (.if_icmp .ne 11, 3) := by decide +kernel
theorem d4_6 : decode jdk_65_method_121_code 6 = .ok (.aload_n 0, 1) := by decide +kernel
theorem d4_7 : decode jdk_65_method_121_code 7 = .ok (.invokevirtual 310, 3) := by decide +kernel
theorem d4_10 : decode jdk_65_method_121_code 10 = .ok (.checkcast 311, 3) := by decide +kernel
theorem d4_13 : decode jdk_65_method_121_code 13 = .ok (.areturn, 1) := by decide +kernel
theorem d4_14 : decode jdk_65_method_121_code 14 = .ok (.iload_n 1, 1) := by decide +kernel
theorem d4_15 : decode jdk_65_method_121_code 15 = .ok (.newarray .byte, 2) := by decide +kernel
theorem d4_17 : decode jdk_65_method_121_code 17 = .ok (.astore_n 2, 1) := by decide +kernel
theorem d4_18 : decode jdk_65_method_121_code 18 = .ok (.aload_n 0, 1) := by decide +kernel
theorem d4_19 : decode jdk_65_method_121_code 19 = .ok (.iconst 0, 1) := by decide +kernel
theorem d4_20 : decode jdk_65_method_121_code 20 = .ok (.aload_n 2, 1) := by decide +kernel
theorem d4_21 : decode jdk_65_method_121_code 21 = .ok (.iconst 0, 1) := by decide +kernel
theorem d4_22 : decode jdk_65_method_121_code 22 = .ok (.aload_n 0, 1) := by decide +kernel
theorem d4_23 : decode jdk_65_method_121_code 23 = .ok (.arraylength, 1) := by decide +kernel
theorem d4_24 : decode jdk_65_method_121_code 24 = .ok (.iload_n 1, 1) := by decide +kernel
theorem d4_25 : decode jdk_65_method_121_code 25 = .ok (.invokestatic 304, 3) := by decide +kernel
theorem d4_28 : decode jdk_65_method_121_code 28 = .ok (.invokestatic 150, 3) := by decide +kernel
theorem d4_31 : decode jdk_65_method_121_code 31 = .ok (.aload_n 2, 1) := by decide +kernel
theorem d4_32 : decode jdk_65_method_121_code 32 = .ok (.areturn, 1) := by decide +kernel
theorem own_ef16 (m : MethodId) (a1 : Addr) (p1 : Int32) : entryFrame m #[(.ref a1), (.int p1)] 3 = mkF m 0 #[.val (.ref a1), .val (.int p1), .unset] [] := by first | (simp [entryFrame, mkF, argsToLocals, Value.category]; done) | rfl
def Q_own_co (Z : State) (a1 : Addr) (p1 : Int32) (h0 : Heap) (n0 : Nat) (k_a1 : ClassId) (z : Int32) (vs : List Value) (j lz : Nat) : Option Value → Heap → List Loc → Prop := fun v h L => ∃ b kb, v = some (.ref b) ∧ Fr n0 L ∧ Keep h0 h [] ∧ h0.size ≤ b ∧ Exa Z h b "[B" ∧ Arv Z h b kb .byte p1 ((List.range j).map fun x => vs.getD x (.int (0 : Int32))) (.int (0 : Int32))
set_option maxRecDepth 65536 in
set_option maxHeartbeats 40000000 in
theorem own_co (l : Launch) (Z : State) (a0 : Array Value) (hw : ∀ d ∈ tables_1, d.before a0 Z = true)  (a1 : Addr) (p1 : Int32) (h0 : Heap) (n0 : Nat) (k_a1 : ClassId) (z : Int32) (vs : List Value) (j lz : Nat) (Z0 : n0 ≤ h0.size) (A_a1 : Arv Z h0 a1 k_a1 .byte z vs (.int (0 : Int32))) (E_a1 : Exa Z h0 a1 "[B") (hj : p1.toInt = (j : Int)) (hz : z.toInt = (lz : Int)) (hvl : vs.length = lz) (hcap : j ≤ 9) :
    ownMet l Z (⟨"java/util/Arrays", "copyOf", "([BI)[B"⟩ : MethodName) jdk_65_method_121_code 3 (some (.array .byte)) [] ({ frames := 1, cells := 1, slots := 9, locals := 60 } : Room) #[(.ref a1), (.int p1)] h0 (Q_own_co Z a1 p1 h0 n0 k_a1 z vs j lz) := by
  refine ownBody (plainFor_of_name own_pn0) ?_
  intro p e s m below meth c T0 hx hby hml hret hlk hZ hown hnm X0 e0
  have N0 : Fr n0 [] := Fr.nil n0
  refine ownVia (fun _ k => castTop (own_ef16 m a1 p1) k) ?_
  show ownFin _ _ _ _ _ (T0.setTop (mkF m 0 #[.val (.ref a1), .val (.int p1), .unset] []))
  have K0 : Keep h0 h0 [] := Keep.refl _ _
  refine ownVia (fun _ k => XS.iloadN X0.here hx rfl (hb hby d4_0) rfl k) ?_
  show ownFin _ _ _ _ _ (T0.setTop (mkF m 1 #[.val (.ref a1), .val (.int p1), .unset] [(.int p1)]))
  refine ownVia (fun _ k => XS.aloadN X0.here hx rfl (hb hby d4_1) rfl rfl k) ?_
  show ownFin _ _ _ _ _ (T0.setTop (mkF m 2 #[.val (.ref a1), .val (.int p1), .unset] [(.ref a1), (.int p1)]))
  refine ownLen X0 hx hZ e0 A_a1 (hb hby d4_2) ?_
  show ownFin _ _ _ _ _ (T0.setTop (mkF m 3 #[.val (.ref a1), .val (.int p1), .unset] [(.int z), (.int p1)]))
  by_cases hc17 : p1 = z
  case pos =>
    have hc17I : (j : Int) = (lz : Int) := (own_eqi hj hz).mp hc17
    refine ownVia (fun _ k => XS.icmpNo X0.here hx rfl (hb hby d4_3) rfl (teq hc17).2 k) ?_
    show ownFin _ _ _ _ _ (T0.setTop (mkF m 6 #[.val (.ref a1), .val (.int p1), .unset] []))
    refine ownVia (fun _ k => XS.aloadN X0.here hx rfl (hb hby d4_6) rfl rfl k) ?_
    show ownFin _ _ _ _ _ (T0.setTop (mkF m 7 #[.val (.ref a1), .val (.int p1), .unset] [(.ref a1)]))
    have hjl : j = lz := by omega
    refine ownClone X0 hx hZ hown (hw _ (List.mem_of_getElem? (i := 49) rfl)) (hw _ (List.mem_of_getElem? (i := 50) rfl)) (hw _ (List.mem_of_getElem? (i := 54) rfl)) (hw _ (List.mem_of_getElem? (i := 52) rfl)) (hw _ (List.mem_of_getElem? (i := 53) rfl)) (hw _ (List.mem_of_getElem? (i := 55) rfl)) e0 A_a1 E_a1 (by rw [hml]; rfl) (hb hby d4_7) (by decide) 0 rfl (by decide) (9) (by rw [own_clamp hz]; omega) (by decide) (by decide) ?_
    intro T18 h18 b1 g18 X18 e18 E18 A_b1 E_b1
    have ne_a1_b1 : a1 ≠ b1 := Nat.ne_of_lt (Nat.lt_of_lt_of_le A_a1.lt (Nat.le_of_eq g18.symm))
    have ge_b1 : n0 ≤ b1 := Nat.le_trans Z0 (Nat.le_of_eq g18.symm)
    have sz_b1 : h0.size ≤ b1 := Nat.le_trans K0.1 (Nat.le_of_eq g18.symm)
    have A_a1 := A_a1.ext E18
    have E_a1 := E_a1.ext E18
    have K0 := K0.ext E18
    have Z0 := own_sz Z0 E18
    show ownFin _ _ _ _ _ (T18.setTop (mkF m 10 #[.val (.ref a1), .val (.int p1), .unset] [(.ref b1)]))
    refine ownCast X18 hx hZ hown (hw _ (List.mem_of_getElem? (i := 56) rfl)) e18 (Ins.self E_b1) (hb hby d4_10) ?_
    intro T19 X19 e19
    show ownFin _ _ _ _ _ (T19.setTop (mkF m 13 #[.val (.ref a1), .val (.int p1), .unset] [(.ref b1)]))
    refine ownRetA X19 hx hlk (ty := (.array .byte)) hret rfl (hb hby d4_13) (by decide) (by decide) ?_
    show (Q_own_co Z a1 p1 h0 n0 k_a1 z vs j lz) (some (.ref b1)) T19.heap _
    rw [e19]
    exact ⟨b1, k_a1, rfl, N0, K0, sz_b1, E_b1, by rw [hc17, hjl, own_all' hvl]; exact A_b1⟩
  case neg =>
    have hc17I : ¬ (j : Int) = (lz : Int) := fun q => hc17 ((own_eqi hj hz).mpr q)
    refine ownVia (fun _ k => XS.icmpYes X0.here hx rfl (pc0 := 3) (pc' := 14) rfl (hb hby d4_3) rfl (feq hc17).2 (by decide) (by decide) k) ?_
    show ownFin _ _ _ _ _ (T0.setTop (mkF m 14 #[.val (.ref a1), .val (.int p1), .unset] []))
    refine ownVia (fun _ k => XS.iloadN X0.here hx rfl (hb hby d4_14) rfl k) ?_
    show ownFin _ _ _ _ _ (T0.setTop (mkF m 15 #[.val (.ref a1), .val (.int p1), .unset] [(.int p1)]))
    refine ownNewP X0 hx hZ (hw _ (List.mem_of_getElem? (i := 0) rfl)) e0 "[B" (by decide) (own_nneg hj) (j) (own_clamp hj) (9) hcap (by decide) (by decide) (by decide) (hb hby d4_15) ?_
    intro T20 h20 k_b1 b1 g20 X20 e20 E20 A_b1 E_b1
    have ne_a1_b1 : a1 ≠ b1 := Nat.ne_of_lt (Nat.lt_of_lt_of_le A_a1.lt (Nat.le_of_eq g20.symm))
    have ge_b1 : n0 ≤ b1 := Nat.le_trans Z0 (Nat.le_of_eq g20.symm)
    have sz_b1 : h0.size ≤ b1 := Nat.le_trans K0.1 (Nat.le_of_eq g20.symm)
    have A_a1 := A_a1.ext E20
    have E_a1 := E_a1.ext E20
    have K0 := K0.ext E20
    have Z0 := own_sz Z0 E20
    have A_b1 : Arv Z h20 b1 k_b1 .byte p1 (List.replicate j (.int (0 : Int32))) (.int (0 : Int32)) := A_b1
    show ownFin _ _ _ _ _ (T20.setTop (mkF m 17 #[.val (.ref a1), .val (.int p1), .unset] [(.ref b1)]))
    refine ownVia (fun _ k => XS.astoreN X20.here hx rfl (hb hby d4_17) rfl rfl (l' := #[.val (.ref a1), .val (.int p1), .val (.ref b1)]) rfl k) ?_
    show ownFin _ _ _ _ _ (T20.setTop (mkF m 18 #[.val (.ref a1), .val (.int p1), .val (.ref b1)] []))
    refine ownVia (fun _ k => XS.aloadN X20.here hx rfl (hb hby d4_18) rfl rfl k) ?_
    show ownFin _ _ _ _ _ (T20.setTop (mkF m 19 #[.val (.ref a1), .val (.int p1), .val (.ref b1)] [(.ref a1)]))
    refine ownVia (fun _ k => XS.iconst X20.here hx rfl (hb hby d4_19) k) ?_
    show ownFin _ _ _ _ _ (T20.setTop (mkF m 20 #[.val (.ref a1), .val (.int p1), .val (.ref b1)] [(.int (0 : Int32)), (.ref a1)]))
    refine ownVia (fun _ k => XS.aloadN X20.here hx rfl (hb hby d4_20) rfl rfl k) ?_
    show ownFin _ _ _ _ _ (T20.setTop (mkF m 21 #[.val (.ref a1), .val (.int p1), .val (.ref b1)] [(.ref b1), (.int (0 : Int32)), (.ref a1)]))
    refine ownVia (fun _ k => XS.iconst X20.here hx rfl (hb hby d4_21) k) ?_
    show ownFin _ _ _ _ _ (T20.setTop (mkF m 22 #[.val (.ref a1), .val (.int p1), .val (.ref b1)] [(.int (0 : Int32)), (.ref b1), (.int (0 : Int32)), (.ref a1)]))
    refine ownVia (fun _ k => XS.aloadN X20.here hx rfl (hb hby d4_22) rfl rfl k) ?_
    show ownFin _ _ _ _ _ (T20.setTop (mkF m 23 #[.val (.ref a1), .val (.int p1), .val (.ref b1)] [(.ref a1), (.int (0 : Int32)), (.ref b1), (.int (0 : Int32)), (.ref a1)]))
    refine ownLen X20 hx hZ e20 A_a1 (hb hby d4_23) ?_
    show ownFin _ _ _ _ _ (T20.setTop (mkF m 24 #[.val (.ref a1), .val (.int p1), .val (.ref b1)] [(.int z), (.int (0 : Int32)), (.ref b1), (.int (0 : Int32)), (.ref a1)]))
    refine ownVia (fun _ k => XS.iloadN X20.here hx rfl (hb hby d4_24) rfl k) ?_
    show ownFin _ _ _ _ _ (T20.setTop (mkF m 25 #[.val (.ref a1), .val (.int p1), .val (.ref b1)] [(.int p1), (.int z), (.int (0 : Int32)), (.ref b1), (.int (0 : Int32)), (.ref a1)]))
    refine ownCallS X20 hx hZ hown (hw _ (List.mem_of_getElem? (i := 17) rfl)) (hw _ (List.mem_of_getElem? (i := 18) rfl)) (hw _ (List.mem_of_getElem? (i := 19) rfl)) (hw _ (List.mem_of_getElem? (i := 20) rfl)) (by decide) e20 (own_min l Z a0 hw z p1 h20 n0 Z0) (by rw [hml]; rfl) [(.int z), (.int p1)] [(.int (0 : Int32)), (.ref b1), (.int (0 : Int32)), (.ref a1)] (lenOf own_pd1 rfl) rfl rfl 4 rfl (hb hby d4_25) (by decide) (by decide) (by decide) (by decide) ?_
    intro v21 T21 L21 X21 hq21
    obtain ⟨rfl, N21q, eq21⟩ := hq21
    have N21 := Fr.app N0 N21q
    have e21 : T21.heap = h20 := eq21
    show ownFin _ _ _ _ _ (T21.setTop (mkF m 28 #[.val (.ref a1), .val (.int p1), .val (.ref b1)] [(.int (own_mn z p1)), (.int (0 : Int32)), (.ref b1), (.int (0 : Int32)), (.ref a1)]))
    have hm : (own_mn z p1).toInt = (((if j < lz then j else lz : Nat)) : Int) := by rw [own_mn_int, hj, hz]; split <;> split <;> omega
    have hm1 : (if j < lz then j else lz) ≤ lz ∧ (if j < lz then j else lz) ≤ j := by constructor <;> split <;> omega
    refine ownCopy X21 hx hZ hown (hw _ (List.mem_of_getElem? (i := 21) rfl)) (hw _ (List.mem_of_getElem? (i := 24) rfl)) (hw _ (List.mem_of_getElem? (i := 22) rfl)) (hw _ (List.mem_of_getElem? (i := 23) rfl)) e21 A_a1 A_b1 rfl (0) (0) ((if j < lz then j else lz)) (lz) (j) (by decide) (by decide) hm hz hj (by omega) (by omega) (by simp; omega) N21 ge_b1 (by rw [hml]; rfl) (hb hby d4_28) (by decide) 0 rfl (by decide) ?_
    intro T22 h22 L22 X22 e22 N22 Kc22 A_b1
    have A_a1 := A_a1.keep Kc22 (ninS ne_a1_b1 nin0)
    have E_a1 := E_a1.keep Kc22
    have E_b1 := E_b1.keep Kc22
    have K0 := K0.trans Kc22 (allS (Or.inr sz_b1) all0)
    have Z0 := Nat.le_trans Z0 Kc22.1
    show ownFin _ _ _ _ _ (T22.setTop (mkF m 31 #[.val (.ref a1), .val (.int p1), .val (.ref b1)] []))
    rw [own_grow hvl rfl] at A_b1
    refine ownVia (fun _ k => XS.aloadN X22.here hx rfl (hb hby d4_31) rfl rfl k) ?_
    show ownFin _ _ _ _ _ (T22.setTop (mkF m 32 #[.val (.ref a1), .val (.int p1), .val (.ref b1)] [(.ref b1)]))
    refine ownRetA X22 hx hlk (ty := (.array .byte)) hret rfl (hb hby d4_32) (by decide) (by decide) ?_
    show (Q_own_co Z a1 p1 h0 n0 k_a1 z vs j lz) (some (.ref b1)) T22.heap _
    rw [e22]
    exact ⟨b1, k_b1, rfl, N22, K0, sz_b1, E_b1, A_b1⟩
theorem d3_0 : decode prog_30_method_9_code 0 = .ok (.iconst 5, 1) := by decide +kernel
theorem d3_1 : decode prog_30_method_9_code 1 = .ok (.newarray .byte, 2) := by decide +kernel
theorem d3_3 : decode prog_30_method_9_code 3 = .ok (.astore_n 1, 1) := by decide +kernel
theorem d3_4 : decode prog_30_method_9_code 4 = .ok (.iconst 0, 1) := by decide +kernel
theorem d3_5 : decode prog_30_method_9_code 5 = .ok (.istore_n 2, 1) := by decide +kernel
theorem d3_6 : decode prog_30_method_9_code 6 = .ok (.iload_n 0, 1) := by decide +kernel
theorem d3_7 : decode prog_30_method_9_code 7 = .ok (.istore_n 3, 1) := by decide +kernel
theorem d3_8 : decode prog_30_method_9_code 8 = .ok (.iload_n 3, 1) := by decide +kernel
theorem d3_9 : decode prog_30_method_9_code 9 = .ok (.sipush 128, 3) := by decide +kernel
theorem d3_12 : decode prog_30_method_9_code 12 = .ok (.if_icmp .lt 26, 3) := by decide +kernel
theorem d3_15 : decode prog_30_method_9_code 15 = .ok (.aload_n 1, 1) := by decide +kernel
theorem d3_16 : decode prog_30_method_9_code 16 = .ok (.iload_n 2, 1) := by decide +kernel
theorem d3_17 : decode prog_30_method_9_code 17 = .ok (.iinc 2 1, 3) := by decide +kernel
theorem d3_20 : decode prog_30_method_9_code 20 = .ok (.iload_n 3, 1) := by decide +kernel
theorem d3_21 : decode prog_30_method_9_code 21 = .ok (.bipush 127, 2) := by decide +kernel
theorem d3_23 : decode prog_30_method_9_code 23 = .ok (.iand, 1) := by decide +kernel
theorem d3_24 : decode prog_30_method_9_code 24 = .ok (.sipush 128, 3) := by decide +kernel
theorem d3_27 : decode prog_30_method_9_code 27 = .ok (.ior, 1) := by decide +kernel
theorem d3_28 : decode prog_30_method_9_code 28 = .ok (.i2b, 1) := by decide +kernel
theorem d3_29 : decode prog_30_method_9_code 29 = .ok (.bastore, 1) := by decide +kernel
theorem d3_30 : decode prog_30_method_9_code 30 = .ok (.iload_n 3, 1) := by decide +kernel
theorem d3_31 : decode prog_30_method_9_code 31 = .ok (.bipush 7, 2) := by decide +kernel
theorem d3_33 : decode prog_30_method_9_code 33 = .ok (.iushr, 1) := by decide +kernel
theorem d3_34 : decode prog_30_method_9_code 34 = .ok (.istore_n 3, 1) := by decide +kernel
theorem d3_35 : decode prog_30_method_9_code 35 = .ok (.goto (-27), 3) := by decide +kernel
theorem d3_38 : decode prog_30_method_9_code 38 = .ok (.aload_n 1, 1) := by decide +kernel
theorem d3_39 : decode prog_30_method_9_code 39 = .ok (.iload_n 2, 1) := by decide +kernel
theorem d3_40 : decode prog_30_method_9_code 40 = .ok (.iinc 2 1, 3) := by decide +kernel
theorem d3_43 : decode prog_30_method_9_code 43 = .ok (.iload_n 3, 1) := by decide +kernel
theorem d3_44 : decode prog_30_method_9_code 44 = .ok (.i2b, 1) := by decide +kernel
theorem d3_45 : decode prog_30_method_9_code 45 = .ok (.bastore, 1) := by decide +kernel
theorem d3_46 : decode prog_30_method_9_code 46 = .ok (.aload_n 1, 1) := by decide +kernel
theorem d3_47 : decode prog_30_method_9_code 47 = .ok (.iload_n 2, 1) := by decide +kernel
theorem d3_48 : decode prog_30_method_9_code 48 = .ok (.invokestatic 31, 3) := by decide +kernel
theorem d3_51 : decode prog_30_method_9_code 51 = .ok (.areturn, 1) := by decide +kernel
theorem own_pn1 : plainName "com/example/lacuna/lacuna/keys/MulticodecKey" = true := by first | (simp [plainName, overriddenIn]; done) | decide +kernel
theorem own_ef23 (m : MethodId) (p1 : Int32) : entryFrame m #[(.int p1)] 4 = mkF m 0 #[.val (.int p1), .unset, .unset, .unset] [] := by first | (simp [entryFrame, mkF, argsToLocals, Value.category]; done) | rfl
def Q_own_uv (Z : State) (p1 : Int32) (h0 : Heap) (n0 : Nat)  : Option Value → Heap → List Loc → Prop := fun v h L => ∃ b kb, ∃ z : Int32, ∃ (vs : List Value) (lz : Nat), v = some (.ref b) ∧ Fr n0 L ∧ Keep h0 h [] ∧ h0.size ≤ b ∧ Exa Z h b "[B" ∧ Arv Z h b kb .byte z vs (.int (0 : Int32)) ∧ z.toInt = (lz : Int) ∧ vs.length = lz ∧ 1 ≤ lz ∧ lz ≤ 5
theorem own_pd3 : parseMethodDescriptor "([BI)[B" = some ⟨[(.array .byte), .int], some (.array .byte)⟩ := by decide +kernel
set_option maxRecDepth 65536 in
set_option maxHeartbeats 40000000 in
theorem own_uv (l : Launch) (Z : State) (a0 : Array Value) (hw : ∀ d ∈ tables_1, d.before a0 Z = true)  (p1 : Int32) (h0 : Heap) (n0 : Nat)  (Z0 : n0 ≤ h0.size)  :
    ownMet l Z (⟨"com/example/lacuna/lacuna/keys/MulticodecKey", "unsignedVarint", "(I)[B"⟩ : MethodName) prog_30_method_9_code 4 (some (.array .byte)) [] ({ frames := 2, cells := 2, slots := 14, locals := 80 } : Room) #[(.int p1)] h0 (Q_own_uv Z p1 h0 n0 ) := by
  refine ownBody (plainFor_of_name own_pn1) ?_
  intro p e s m below meth c T0 hx hby hml hret hlk hZ hown hnm X0 e0
  have N0 : Fr n0 [] := Fr.nil n0
  refine ownVia (fun _ k => castTop (own_ef23 m p1) k) ?_
  show ownFin _ _ _ _ _ (T0.setTop (mkF m 0 #[.val (.int p1), .unset, .unset, .unset] []))
  have K0 : Keep h0 h0 [] := Keep.refl _ _
  refine ownVia (fun _ k => XS.iconst X0.here hx rfl (hb hby d3_0) k) ?_
  show ownFin _ _ _ _ _ (T0.setTop (mkF m 1 #[.val (.int p1), .unset, .unset, .unset] [(.int (5 : Int32))]))
  refine ownNewP X0 hx hZ (hw _ (List.mem_of_getElem? (i := 0) rfl)) e0 "[B" (by decide) (by decide) (5) (by decide) (5) (by decide) (by decide) (by decide) (by decide) (hb hby d3_1) ?_
  intro T24 h24 k_b1 b1 g24 X24 e24 E24 A_b1 E_b1
  have ge_b1 : n0 ≤ b1 := Nat.le_trans Z0 (Nat.le_of_eq g24.symm)
  have sz_b1 : h0.size ≤ b1 := Nat.le_trans K0.1 (Nat.le_of_eq g24.symm)
  have K0 := K0.ext E24
  have Z0 := own_sz Z0 E24
  have A_b1 : Arv Z h24 b1 k_b1 .byte (5 : Int32) [(.int (0 : Int32)), (.int (0 : Int32)), (.int (0 : Int32)), (.int (0 : Int32)), (.int (0 : Int32))] (.int (0 : Int32)) := A_b1
  show ownFin _ _ _ _ _ (T24.setTop (mkF m 3 #[.val (.int p1), .unset, .unset, .unset] [(.ref b1)]))
  refine ownVia (fun _ k => XS.astoreN X24.here hx rfl (hb hby d3_3) rfl rfl (l' := #[.val (.int p1), .val (.ref b1), .unset, .unset]) rfl k) ?_
  show ownFin _ _ _ _ _ (T24.setTop (mkF m 4 #[.val (.int p1), .val (.ref b1), .unset, .unset] []))
  refine ownVia (fun _ k => XS.iconst X24.here hx rfl (hb hby d3_4) k) ?_
  show ownFin _ _ _ _ _ (T24.setTop (mkF m 5 #[.val (.int p1), .val (.ref b1), .unset, .unset] [(.int (0 : Int32))]))
  refine ownVia (fun _ k => XS.istoreN X24.here hx rfl (hb hby d3_5) rfl (l' := #[.val (.int p1), .val (.ref b1), .val (.int (0 : Int32)), .unset]) rfl k) ?_
  show ownFin _ _ _ _ _ (T24.setTop (mkF m 6 #[.val (.int p1), .val (.ref b1), .val (.int (0 : Int32)), .unset] []))
  refine ownVia (fun _ k => XS.iloadN X24.here hx rfl (hb hby d3_6) rfl k) ?_
  show ownFin _ _ _ _ _ (T24.setTop (mkF m 7 #[.val (.int p1), .val (.ref b1), .val (.int (0 : Int32)), .unset] [(.int p1)]))
  refine ownVia (fun _ k => XS.istoreN X24.here hx rfl (hb hby d3_7) rfl (l' := #[.val (.int p1), .val (.ref b1), .val (.int (0 : Int32)), .val (.int p1)]) rfl k) ?_
  show ownFin _ _ _ _ _ (T24.setTop (mkF m 8 #[.val (.int p1), .val (.ref b1), .val (.int (0 : Int32)), .val (.int p1)] []))
  have exit : ∀ (n : Nat) (xv iv : Int32) (T : State) (hh : Heap) (lo : List Loc) (vs : List Value), Stand p l e ({ frames := 2, cells := 2, slots := 14, locals := 80 } : Room) s m #[(.int p1)] below meth c T lo (0 + 1) (0 + 5) → T.heap = hh → Fr n0 lo → n ≤ 4 → iv.toInt = (n : Int) → vs.length = 5 → Arv Z hh b1 k_b1 .byte (5 : Int32) vs (.int (0 : Int32)) → Exa Z hh b1 "[B" → Keep h0 hh [] → n0 ≤ hh.size → ownFin p e below (ownFE s ({ frames := 2, cells := 2, slots := 14, locals := 80 } : Room).cells ({ frames := 2, cells := 2, slots := 14, locals := 80 } : Room).slots) (Q_own_uv Z p1 h0 n0 ) (T.setTop (mkF m 38 #[.val (.int p1), .val (.ref b1), .val (.int iv), .val (.int xv)] [])) := by
    intro n xv iv T hh lo vs X eT NL hn4 hiv hvl A_b1 E_b1 K0 Z0
    show ownFin _ _ _ _ _ (T.setTop (mkF m 38 #[.val (.int p1), .val (.ref b1), .val (.int iv), .val (.int xv)] []))
    refine ownVia (fun _ k => XS.aloadN X.here hx rfl (hb hby d3_38) rfl rfl k) ?_
    show ownFin _ _ _ _ _ (T.setTop (mkF m 39 #[.val (.int p1), .val (.ref b1), .val (.int iv), .val (.int xv)] [(.ref b1)]))
    refine ownVia (fun _ k => XS.iloadN X.here hx rfl (hb hby d3_39) rfl k) ?_
    show ownFin _ _ _ _ _ (T.setTop (mkF m 40 #[.val (.int p1), .val (.ref b1), .val (.int iv), .val (.int xv)] [(.int iv), (.ref b1)]))
    refine ownVia (fun _ k => XS.iinc X.here hx rfl (hb hby d3_40) rfl (l' := #[.val (.int p1), .val (.ref b1), .val (.int (iv + (1 : Int32))), .val (.int xv)]) rfl k) ?_
    show ownFin _ _ _ _ _ (T.setTop (mkF m 43 #[.val (.int p1), .val (.ref b1), .val (.int (iv + (1 : Int32))), .val (.int xv)] [(.int iv), (.ref b1)]))
    refine ownVia (fun _ k => XS.iloadN X.here hx rfl (hb hby d3_43) rfl k) ?_
    show ownFin _ _ _ _ _ (T.setTop (mkF m 44 #[.val (.int p1), .val (.ref b1), .val (.int (iv + (1 : Int32))), .val (.int xv)] [(.int xv), (.int iv), (.ref b1)]))
    refine ownVia (fun _ k => XS.i2b X.here hx rfl (hb hby d3_44) rfl k) ?_
    show ownFin _ _ _ _ _ (T.setTop (mkF m 45 #[.val (.int p1), .val (.ref b1), .val (.int (iv + (1 : Int32))), .val (.int xv)] [(.int (xv.toInt8.toInt32)), (.int iv), (.ref b1)]))
    refine ownBastore X hx hZ eT A_b1 (own_idx (by decide : (5 : Int32).toInt = 5) (by omega) (by omega)) (n) (own_clamp hiv) (by omega) NL ge_b1 (hb hby d3_45) ?_
    intro T25 h25 L25 X25 e25 N25 W25 A_b1
    have E_b1 := E_b1.wr W25
    have K0 := K0.wr W25 (Or.inr sz_b1)
    have Z0 := own_szW Z0 W25
    have A_b1 : Arv Z h25 b1 k_b1 .byte (5 : Int32) (vs.set n (.int (nar .byte (xv.toInt8.toInt32)))) (.int (0 : Int32)) := A_b1
    show ownFin _ _ _ _ _ (T25.setTop (mkF m 46 #[.val (.int p1), .val (.ref b1), .val (.int (iv + (1 : Int32))), .val (.int xv)] []))
    refine ownVia (fun _ k => XS.aloadN X25.here hx rfl (hb hby d3_46) rfl rfl k) ?_
    show ownFin _ _ _ _ _ (T25.setTop (mkF m 47 #[.val (.int p1), .val (.ref b1), .val (.int (iv + (1 : Int32))), .val (.int xv)] [(.ref b1)]))
    refine ownVia (fun _ k => XS.iloadN X25.here hx rfl (hb hby d3_47) rfl k) ?_
    show ownFin _ _ _ _ _ (T25.setTop (mkF m 48 #[.val (.int p1), .val (.ref b1), .val (.int (iv + (1 : Int32))), .val (.int xv)] [(.int (iv + (1 : Int32))), (.ref b1)]))
    have hi1 := own_add hiv (by decide : (1 : Int32).toInt = ((1 : Nat) : Int)) (by omega)
    refine ownCallS X25 hx hZ hown (hw _ (List.mem_of_getElem? (i := 13) rfl)) (hw _ (List.mem_of_getElem? (i := 14) rfl)) (hw _ (List.mem_of_getElem? (i := 15) rfl)) (hw _ (List.mem_of_getElem? (i := 16) rfl)) (by decide) e25 (own_co l Z a0 hw b1 (iv + (1 : Int32)) h25 n0 k_b1 (5 : Int32) (vs.set n (.int (nar .byte (xv.toInt8.toInt32)))) (n + 1) 5 Z0 A_b1 E_b1 hi1 (by decide) (by rw [List.length_set]; exact hvl) (by omega)) (by rw [hml]; rfl) [(.ref b1), (.int (iv + (1 : Int32)))] [] (lenOf own_pd3 rfl) rfl rfl 0 rfl (hb hby d3_48) (by decide) (by decide) (by decide) (by decide) ?_
    intro v26 T26 L26 X26 hq26
    obtain ⟨b2, kb2, rfl, N26q, K26, sq26, E_b2, A_b2⟩ := hq26
    have ne_b1_b2 : b1 ≠ b2 := Nat.ne_of_lt (Nat.lt_of_lt_of_le A_b1.lt sq26)
    have ge_b2 : n0 ≤ b2 := Nat.le_trans Z0 sq26
    have sz_b2 : h0.size ≤ b2 := Nat.le_trans K0.1 sq26
    have K0 := K0.trans K26 all0
    have N26 := Fr.app N25 N26q
    show ownFin _ _ _ _ _ (T26.setTop (mkF m 51 #[.val (.int p1), .val (.ref b1), .val (.int (iv + (1 : Int32))), .val (.int xv)] [(.ref b2)]))
    refine ownRetA X26 hx hlk (ty := (.array .byte)) hret rfl (hb hby d3_51) (by decide) (by decide) ?_
    show (Q_own_uv Z p1 h0 n0 ) (some (.ref b2)) T26.heap _
    exact ⟨b2, kb2, _, _, n + 1, rfl, N26, K0, sz_b2, E_b2, A_b2, hi1, by simp, by omega, by omega⟩
  have loop : ∀ (k : Nat) (n : Nat) (xv iv : Int32) (T : State) (hh : Heap) (lo : List Loc) (vs : List Value), Stand p l e ({ frames := 2, cells := 2, slots := 14, locals := 80 } : Room) s m #[(.int p1)] below meth c T lo (0 + 1) (0 + 5) → T.heap = hh → Fr n0 lo → n ≤ 4 → iv.toInt = (n : Int) → vs.length = 5 → Arv Z hh b1 k_b1 .byte (5 : Int32) vs (.int (0 : Int32)) → Exa Z hh b1 "[B" → Keep h0 hh [] → n0 ≤ hh.size → n + k = 4 → xv.toInt < 128 ^ (k + 1) → ownFin p e below (ownFE s ({ frames := 2, cells := 2, slots := 14, locals := 80 } : Room).cells ({ frames := 2, cells := 2, slots := 14, locals := 80 } : Room).slots) (Q_own_uv Z p1 h0 n0 ) (T.setTop (mkF m 8 #[.val (.int p1), .val (.ref b1), .val (.int iv), .val (.int xv)] [])) := by
    intro k
    induction k with
    | zero =>
      intro n xv iv T hh lo vs X eT NL hn4 hiv hvl A_b1 E_b1 K0 Z0 hk hxv
      show ownFin _ _ _ _ _ (T.setTop (mkF m 8 #[.val (.int p1), .val (.ref b1), .val (.int iv), .val (.int xv)] []))
      refine ownVia (fun _ k => XS.iloadN X.here hx rfl (hb hby d3_8) rfl k) ?_
      show ownFin _ _ _ _ _ (T.setTop (mkF m 9 #[.val (.int p1), .val (.ref b1), .val (.int iv), .val (.int xv)] [(.int xv)]))
      refine ownVia (fun _ k => XS.sipush X.here hx rfl (hb hby d3_9) k) ?_
      show ownFin _ _ _ _ _ (T.setTop (mkF m 12 #[.val (.int p1), .val (.ref b1), .val (.int iv), .val (.int xv)] [(.int (128 : Int32)), (.int xv)]))
      refine ownVia (fun _ k => XS.icmpYes X.here hx rfl (pc0 := 12) (pc' := 38) rfl (hb hby d3_12) rfl (tlt ((own_lti rfl (by decide : (128 : Int32).toInt = 128)).mpr (by simpa using hxv))).1 (by decide) (by decide) k) ?_
      show ownFin _ _ _ _ _ (T.setTop (mkF m 38 #[.val (.int p1), .val (.ref b1), .val (.int iv), .val (.int xv)] []))
      exact exit n _ _ _ _ _ _ X eT NL hn4 hiv hvl A_b1 E_b1 K0 Z0
    | succ k ih =>
      intro n xv iv T hh lo vs X eT NL hn4 hiv hvl A_b1 E_b1 K0 Z0 hk hxv
      show ownFin _ _ _ _ _ (T.setTop (mkF m 8 #[.val (.int p1), .val (.ref b1), .val (.int iv), .val (.int xv)] []))
      refine ownVia (fun _ k => XS.iloadN X.here hx rfl (hb hby d3_8) rfl k) ?_
      show ownFin _ _ _ _ _ (T.setTop (mkF m 9 #[.val (.int p1), .val (.ref b1), .val (.int iv), .val (.int xv)] [(.int xv)]))
      refine ownVia (fun _ k => XS.sipush X.here hx rfl (hb hby d3_9) k) ?_
      show ownFin _ _ _ _ _ (T.setTop (mkF m 12 #[.val (.int p1), .val (.ref b1), .val (.int iv), .val (.int xv)] [(.int (128 : Int32)), (.int xv)]))
      by_cases hc27 : xv < (128 : Int32)
      case pos =>
        have hc27I : xv.toInt < 128 := (own_lti rfl (by decide)).mp hc27
        refine ownVia (fun _ k => XS.icmpYes X.here hx rfl (pc0 := 12) (pc' := 38) rfl (hb hby d3_12) rfl (tlt hc27).1 (by decide) (by decide) k) ?_
        show ownFin _ _ _ _ _ (T.setTop (mkF m 38 #[.val (.int p1), .val (.ref b1), .val (.int iv), .val (.int xv)] []))
        exact exit n _ _ _ _ _ _ X eT NL hn4 hiv hvl A_b1 E_b1 K0 Z0
      case neg =>
        have hc27I : ¬ xv.toInt < 128 := fun q => hc27 ((own_lti rfl (by decide)).mpr q)
        refine ownVia (fun _ k => XS.icmpNo X.here hx rfl (hb hby d3_12) rfl (flt hc27).1 k) ?_
        show ownFin _ _ _ _ _ (T.setTop (mkF m 15 #[.val (.int p1), .val (.ref b1), .val (.int iv), .val (.int xv)] []))
        refine ownVia (fun _ k => XS.aloadN X.here hx rfl (hb hby d3_15) rfl rfl k) ?_
        show ownFin _ _ _ _ _ (T.setTop (mkF m 16 #[.val (.int p1), .val (.ref b1), .val (.int iv), .val (.int xv)] [(.ref b1)]))
        refine ownVia (fun _ k => XS.iloadN X.here hx rfl (hb hby d3_16) rfl k) ?_
        show ownFin _ _ _ _ _ (T.setTop (mkF m 17 #[.val (.int p1), .val (.ref b1), .val (.int iv), .val (.int xv)] [(.int iv), (.ref b1)]))
        refine ownVia (fun _ k => XS.iinc X.here hx rfl (hb hby d3_17) rfl (l' := #[.val (.int p1), .val (.ref b1), .val (.int (iv + (1 : Int32))), .val (.int xv)]) rfl k) ?_
        show ownFin _ _ _ _ _ (T.setTop (mkF m 20 #[.val (.int p1), .val (.ref b1), .val (.int (iv + (1 : Int32))), .val (.int xv)] [(.int iv), (.ref b1)]))
        refine ownVia (fun _ k => XS.iloadN X.here hx rfl (hb hby d3_20) rfl k) ?_
        show ownFin _ _ _ _ _ (T.setTop (mkF m 21 #[.val (.int p1), .val (.ref b1), .val (.int (iv + (1 : Int32))), .val (.int xv)] [(.int xv), (.int iv), (.ref b1)]))
        refine ownVia (fun _ k => XS.bipush X.here hx rfl (hb hby d3_21) k) ?_
        show ownFin _ _ _ _ _ (T.setTop (mkF m 23 #[.val (.int p1), .val (.ref b1), .val (.int (iv + (1 : Int32))), .val (.int xv)] [(.int (127 : Int32)), (.int xv), (.int iv), (.ref b1)]))
        refine ownVia (fun _ k => XS.iand X.here hx rfl (hb hby d3_23) rfl k) ?_
        show ownFin _ _ _ _ _ (T.setTop (mkF m 24 #[.val (.int p1), .val (.ref b1), .val (.int (iv + (1 : Int32))), .val (.int xv)] [(.int (xv &&& (127 : Int32))), (.int iv), (.ref b1)]))
        refine ownVia (fun _ k => XS.sipush X.here hx rfl (hb hby d3_24) k) ?_
        show ownFin _ _ _ _ _ (T.setTop (mkF m 27 #[.val (.int p1), .val (.ref b1), .val (.int (iv + (1 : Int32))), .val (.int xv)] [(.int (128 : Int32)), (.int (xv &&& (127 : Int32))), (.int iv), (.ref b1)]))
        refine ownVia (fun _ k => XS.ior X.here hx rfl (hb hby d3_27) rfl k) ?_
        show ownFin _ _ _ _ _ (T.setTop (mkF m 28 #[.val (.int p1), .val (.ref b1), .val (.int (iv + (1 : Int32))), .val (.int xv)] [(.int ((xv &&& (127 : Int32)) ||| (128 : Int32))), (.int iv), (.ref b1)]))
        refine ownVia (fun _ k => XS.i2b X.here hx rfl (hb hby d3_28) rfl k) ?_
        show ownFin _ _ _ _ _ (T.setTop (mkF m 29 #[.val (.int p1), .val (.ref b1), .val (.int (iv + (1 : Int32))), .val (.int xv)] [(.int (((xv &&& (127 : Int32)) ||| (128 : Int32)).toInt8.toInt32)), (.int iv), (.ref b1)]))
        refine ownBastore X hx hZ eT A_b1 (own_idx (by decide : (5 : Int32).toInt = 5) (by omega) (by omega)) (n) (own_clamp hiv) (by omega) NL ge_b1 (hb hby d3_29) ?_
        intro T28 h28 L28 X28 e28 N28 W28 A_b1
        have E_b1 := E_b1.wr W28
        have K0 := K0.wr W28 (Or.inr sz_b1)
        have Z0 := own_szW Z0 W28
        have A_b1 : Arv Z h28 b1 k_b1 .byte (5 : Int32) (vs.set n (.int (nar .byte (((xv &&& (127 : Int32)) ||| (128 : Int32)).toInt8.toInt32)))) (.int (0 : Int32)) := A_b1
        show ownFin _ _ _ _ _ (T28.setTop (mkF m 30 #[.val (.int p1), .val (.ref b1), .val (.int (iv + (1 : Int32))), .val (.int xv)] []))
        refine ownVia (fun _ k => XS.iloadN X28.here hx rfl (hb hby d3_30) rfl k) ?_
        show ownFin _ _ _ _ _ (T28.setTop (mkF m 31 #[.val (.int p1), .val (.ref b1), .val (.int (iv + (1 : Int32))), .val (.int xv)] [(.int xv)]))
        refine ownVia (fun _ k => XS.bipush X28.here hx rfl (hb hby d3_31) k) ?_
        show ownFin _ _ _ _ _ (T28.setTop (mkF m 33 #[.val (.int p1), .val (.ref b1), .val (.int (iv + (1 : Int32))), .val (.int xv)] [(.int (7 : Int32)), (.int xv)]))
        refine ownVia (fun _ k => XS.iushr X28.here hx rfl (hb hby d3_33) rfl k) ?_
        show ownFin _ _ _ _ _ (T28.setTop (mkF m 34 #[.val (.int p1), .val (.ref b1), .val (.int (iv + (1 : Int32))), .val (.int xv)] [(.int ((xv.toUInt32 >>> ((7 : Int32) &&& 31).toUInt32).toInt32))]))
        refine ownVia (fun _ k => XS.istoreN X28.here hx rfl (hb hby d3_34) rfl (l' := #[.val (.int p1), .val (.ref b1), .val (.int (iv + (1 : Int32))), .val (.int ((xv.toUInt32 >>> ((7 : Int32) &&& 31).toUInt32).toInt32))]) rfl k) ?_
        show ownFin _ _ _ _ _ (T28.setTop (mkF m 35 #[.val (.int p1), .val (.ref b1), .val (.int (iv + (1 : Int32))), .val (.int ((xv.toUInt32 >>> ((7 : Int32) &&& 31).toUInt32).toInt32))] []))
        refine ownVia (fun _ k => XS.goto X28.here hx rfl (pc0 := 35) (pc' := 8) rfl (hb hby d3_35) (by decide) (by decide) k) ?_
        show ownFin _ _ _ _ _ (T28.setTop (mkF m 8 #[.val (.int p1), .val (.ref b1), .val (.int (iv + (1 : Int32))), .val (.int ((xv.toUInt32 >>> ((7 : Int32) &&& 31).toUInt32).toInt32))] []))
        exact ih (n + 1) _ _ _ _ _ _ X28 e28 N28 (by omega) (own_add hiv (by decide : (1 : Int32).toInt = ((1 : Nat) : Int)) (by omega)) (by rw [List.length_set]; exact hvl) A_b1 E_b1 K0 Z0 (by omega) (own_shr hc27I hxv)
  exact loop 4 0 _ _ _ _ _ _ X24 e24 N0 (by decide) (by decide) (by simp) A_b1 E_b1 K0 Z0 (by decide) (Int.lt_trans (rng32 p1).2 (by decide))
theorem d1_0 : decode prog_30_method_1_code 0 = .ok (.aload_n 0, 1) := by decide +kernel
theorem d1_1 : decode prog_30_method_1_code 1 = .ok (.invokespecial 1, 3) := by decide +kernel
theorem d1_4 : decode prog_30_method_1_code 4 = .ok (.aload_n 0, 1) := by decide +kernel
theorem d1_5 : decode prog_30_method_1_code 5 = .ok (.iload_n 1, 1) := by decide +kernel
theorem d1_6 : decode prog_30_method_1_code 6 = .ok (.invokestatic 7, 3) := by decide +kernel
theorem d1_9 : decode prog_30_method_1_code 9 = .ok (.putfield 13, 3) := by decide +kernel
theorem d1_12 : decode prog_30_method_1_code 12 = .ok (.aload_n 0, 1) := by decide +kernel
theorem d1_13 : decode prog_30_method_1_code 13 = .ok (.iload_n 2, 1) := by decide +kernel
theorem d1_14 : decode prog_30_method_1_code 14 = .ok (.putfield 17, 3) := by decide +kernel
theorem d1_17 : decode prog_30_method_1_code 17 = .ok (.return_, 1) := by decide +kernel
theorem own_ef29 (m : MethodId) (a1 : Addr) (p1 : Int32) (p2 : Int32) : entryFrame m #[(.ref a1), (.int p1), (.int p2)] 3 = mkF m 0 #[.val (.ref a1), .val (.int p1), .val (.int p2)] [] := by first | (simp [entryFrame, mkF, argsToLocals, Value.category]; done) | rfl
def Q_own_init (Z : State) (a1 : Addr) (p1 : Int32) (p2 : Int32) (h0 : Heap) (n0 : Nat)  : Option Value → Heap → List Loc → Prop := fun v h L => v = none ∧ Fr n0 L ∧ Keep h0 h [a1] ∧ ∃ b kb, ∃ z : Int32, ∃ (vs : List Value) (lz : Nat), h0.size ≤ b ∧ Exa Z h b "[B" ∧ Arv Z h b kb .byte z vs (.int (0 : Int32)) ∧ z.toInt = (lz : Int) ∧ vs.length = lz ∧ 1 ≤ lz ∧ lz ≤ 5 ∧ Fld Z h a1 "com/example/lacuna/lacuna/keys/MulticodecKey" "header" "[B" (.ref b)
theorem own_pd4 : parseMethodDescriptor "(I)[B" = some ⟨[.int], some (.array .byte)⟩ := by decide +kernel
set_option maxRecDepth 65536 in
set_option maxHeartbeats 40000000 in
theorem own_init (l : Launch) (Z : State) (a0 : Array Value) (hw : ∀ d ∈ tables_1, d.before a0 Z = true)  (a1 : Addr) (p1 : Int32) (p2 : Int32) (h0 : Heap) (n0 : Nat)  (Z0 : n0 ≤ h0.size) (F_a1_header : Fld Z h0 a1 "com/example/lacuna/lacuna/keys/MulticodecKey" "header" "[B" .null) (F_a1_keyLength : Fld Z h0 a1 "com/example/lacuna/lacuna/keys/MulticodecKey" "keyLength" "I" (.int (0 : Int32))) (E_a1 : Exa Z h0 a1 "com/example/lacuna/lacuna/keys/MulticodecKey") (ge_a1 : n0 ≤ a1) :
    ownMet l Z (⟨"com/example/lacuna/lacuna/keys/MulticodecKey", "<init>", "(II)V"⟩ : MethodName) prog_30_method_1_code 3 none [] ({ frames := 3, cells := 2, slots := 14, locals := 100 } : Room) #[(.ref a1), (.int p1), (.int p2)] h0 (Q_own_init Z a1 p1 p2 h0 n0 ) := by
  refine ownBody (plainFor_of_name own_pn1) ?_
  intro p e s m below meth c T0 hx hby hml hret hlk hZ hown hnm X0 e0
  have N0 : Fr n0 [] := Fr.nil n0
  refine ownVia (fun _ k => castTop (own_ef29 m a1 p1 p2) k) ?_
  show ownFin _ _ _ _ _ (T0.setTop (mkF m 0 #[.val (.ref a1), .val (.int p1), .val (.int p2)] []))
  have K0 : Keep h0 h0 [a1] := Keep.refl _ _
  refine ownVia (fun _ k => XS.aloadN X0.here hx rfl (hb hby d1_0) rfl rfl k) ?_
  show ownFin _ _ _ _ _ (T0.setTop (mkF m 1 #[.val (.ref a1), .val (.int p1), .val (.int p2)] [(.ref a1)]))
  obtain ⟨T30, X30, e30, st30⟩ := initO X0 hx hZ hown (hw _ (List.mem_of_getElem? (i := 7) rfl)) (hw _ (List.mem_of_getElem? (i := 8) rfl)) (hw _ (List.mem_of_getElem? (i := 9) rfl)) e0 (g := (mkF m 1 #[.val (.ref a1), .val (.int p1), .val (.int p2)] [(.ref a1)])) rfl (by rw [hml]; rfl) rfl (hb hby d1_1) (by decide) (W := 0) (by show 2 * 0 + _ ≤ _; exact Nat.le_of_eq rfl) (by decide)
  refine ownVia st30 ?_
  show ownFin _ _ _ _ _ (T30.setTop (mkF m 4 #[.val (.ref a1), .val (.int p1), .val (.int p2)] []))
  refine ownVia (fun _ k => XS.aloadN X30.here hx rfl (hb hby d1_4) rfl rfl k) ?_
  show ownFin _ _ _ _ _ (T30.setTop (mkF m 5 #[.val (.ref a1), .val (.int p1), .val (.int p2)] [(.ref a1)]))
  refine ownVia (fun _ k => XS.iloadN X30.here hx rfl (hb hby d1_5) rfl k) ?_
  show ownFin _ _ _ _ _ (T30.setTop (mkF m 6 #[.val (.ref a1), .val (.int p1), .val (.int p2)] [(.int p1), (.ref a1)]))
  refine ownCallS X30 hx hZ hown (hw _ (List.mem_of_getElem? (i := 10) rfl)) (hw _ (List.mem_of_getElem? (i := 11) rfl)) (hw _ (List.mem_of_getElem? (i := 3) rfl)) (hw _ (List.mem_of_getElem? (i := 12) rfl)) (by decide) e30 (own_uv l Z a0 hw p1 h0 n0 Z0) (by rw [hml]; rfl) [(.int p1)] [(.ref a1)] (lenOf own_pd4 rfl) rfl rfl 1 rfl (hb hby d1_6) (by decide) (by decide) (by decide) (by decide) ?_
  intro v31 T31 L31 X31 hq31
  obtain ⟨b1, kb1, z, vs, lz, rfl, N31q, K31, sq31, E_b1, A_b1, hz, hvl, h1l, hl5⟩ := hq31
  have ne_a1_b1 : a1 ≠ b1 := Nat.ne_of_lt (Nat.lt_of_lt_of_le F_a1_header.lt sq31)
  have ge_b1 : n0 ≤ b1 := Nat.le_trans Z0 sq31
  have sz_b1 : h0.size ≤ b1 := Nat.le_trans K0.1 sq31
  have F_a1_header := F_a1_header.keep K31 nin0
  have F_a1_keyLength := F_a1_keyLength.keep K31 nin0
  have E_a1 := E_a1.keep K31
  have K0 := K0.trans K31 all0
  have Z0 := Nat.le_trans Z0 K31.1
  have N31 := Fr.app N0 N31q
  show ownFin _ _ _ _ _ (T31.setTop (mkF m 9 #[.val (.ref a1), .val (.int p1), .val (.int p2)] [(.ref b1), (.ref a1)]))
  obtain ⟨T32, h32, X32, e32, W32, st32⟩ := putF X31 hx hZ hown (host := "") (Or.inl (hw _ (List.mem_of_getElem? (i := 25) rfl))) Via.refl (rfl : T31.heap = T31.heap) F_a1_header E_a1 (Or.inr ⟨(hw _ (List.mem_of_getElem? (i := 26) rfl)), rfl, hnm⟩) (hw _ (List.mem_of_getElem? (i := 2) rfl)) (ty := (.array .byte)) (by decide) rfl rfl (g := (mkF m 9 #[.val (.ref a1), .val (.int p1), .val (.int p2)] [(.ref b1), (.ref a1)])) rfl rfl (hb hby d1_9)
  have N32 := Fr.snoc X32 N31 ge_a1
  have F_a1_header := F_a1_header.same W32
  have F_a1_keyLength := F_a1_keyLength.other W32 (Or.inr (slot_ne (Or.inr (hw _ (List.mem_of_getElem? (i := 28) rfl))) (Or.inr (hw _ (List.mem_of_getElem? (i := 26) rfl))) (by decide) (t := .int) (t' := (.array .byte)) (by decide) (by decide)))
  have E_a1 := E_a1.wr W32
  have A_b1 := A_b1.other W32 (Ne.symm ne_a1_b1)
  have E_b1 := E_b1.wr W32
  have K0 := K0.wr W32 (Or.inl (List.mem_of_getElem? (i := 0) rfl))
  have Z0 := own_szW Z0 W32
  refine ownVia st32 ?_
  show ownFin _ _ _ _ _ (T32.setTop (mkF m 12 #[.val (.ref a1), .val (.int p1), .val (.int p2)] []))
  refine ownVia (fun _ k => XS.aloadN X32.here hx rfl (hb hby d1_12) rfl rfl k) ?_
  show ownFin _ _ _ _ _ (T32.setTop (mkF m 13 #[.val (.ref a1), .val (.int p1), .val (.int p2)] [(.ref a1)]))
  refine ownVia (fun _ k => XS.iloadN X32.here hx rfl (hb hby d1_13) rfl k) ?_
  show ownFin _ _ _ _ _ (T32.setTop (mkF m 14 #[.val (.ref a1), .val (.int p1), .val (.int p2)] [(.int p2), (.ref a1)]))
  obtain ⟨T33, h33, X33, e33, W33, st33⟩ := putF X32 hx hZ hown (host := "") (Or.inl (hw _ (List.mem_of_getElem? (i := 27) rfl))) Via.refl e32 F_a1_keyLength E_a1 (Or.inr ⟨(hw _ (List.mem_of_getElem? (i := 28) rfl)), rfl, hnm⟩) (hw _ (List.mem_of_getElem? (i := 2) rfl)) (ty := .int) (by decide) rfl rfl (g := (mkF m 14 #[.val (.ref a1), .val (.int p1), .val (.int p2)] [(.int p2), (.ref a1)])) rfl rfl (hb hby d1_14)
  have N33 := Fr.snoc X33 N32 ge_a1
  have F_a1_keyLength := F_a1_keyLength.same W33
  have F_a1_header := F_a1_header.other W33 (Or.inr (slot_ne (Or.inr (hw _ (List.mem_of_getElem? (i := 26) rfl))) (Or.inr (hw _ (List.mem_of_getElem? (i := 28) rfl))) (by decide) (t := (.array .byte)) (t' := .int) (by decide) (by decide)))
  have E_a1 := E_a1.wr W33
  have A_b1 := A_b1.other W33 (Ne.symm ne_a1_b1)
  have E_b1 := E_b1.wr W33
  have K0 := K0.wr W33 (Or.inl (List.mem_of_getElem? (i := 0) rfl))
  have Z0 := own_szW Z0 W33
  refine ownVia st33 ?_
  show ownFin _ _ _ _ _ (T33.setTop (mkF m 17 #[.val (.ref a1), .val (.int p1), .val (.int p2)] []))
  refine ownRetV X33 hx hlk hret (hb hby d1_17) (by decide) (by decide) ?_
  show (Q_own_init Z a1 p1 p2 h0 n0 ) none T33.heap _
  rw [e33]
  exact ⟨rfl, N33, K0, b1, kb1, z, vs, lz, sz_b1, E_b1, A_b1, hz, hvl, h1l, hl5, F_a1_header⟩
theorem d6_0 : decode prog_30_method_6_code 0 = .ok (.aload_n 0, 1) := by decide +kernel
theorem d6_1 : decode prog_30_method_6_code 1 = .ok (.getfield 13, 3) := by decide +kernel
theorem d6_4 : decode prog_30_method_6_code 4 = .ok (.aload_n 0, 1) := by decide +kernel
theorem d6_5 : decode prog_30_method_6_code 5 = .ok (.getfield 13, 3) := by decide +kernel
theorem d6_8 : decode prog_30_method_6_code 8 = .ok (.arraylength, 1) := by decide +kernel
theorem d6_9 : decode prog_30_method_6_code 9 = .ok (.aload_n 1, 1) := by decide +kernel
theorem d6_10 : decode prog_30_method_6_code 10 = .ok (.arraylength, 1) := by decide +kernel
theorem d6_11 : decode prog_30_method_6_code 11 = .ok (.iadd, 1) := by decide +kernel
theorem d6_12 : decode prog_30_method_6_code 12 = .ok (.invokestatic 31, 3) := by decide +kernel
theorem d6_15 : decode prog_30_method_6_code 15 = .ok (.astore_n 2, 1) := by decide +kernel
theorem d6_16 : decode prog_30_method_6_code 16 = .ok (.aload_n 1, 1) := by decide +kernel
theorem d6_17 : decode prog_30_method_6_code 17 = .ok (.iconst 0, 1) := by decide +kernel
theorem d6_18 : decode prog_30_method_6_code 18 = .ok (.aload_n 2, 1) := by decide +kernel
theorem d6_19 : decode prog_30_method_6_code 19 = .ok (.aload_n 0, 1) := by decide +kernel
theorem d6_20 : decode prog_30_method_6_code 20 = .ok (.getfield 13, 3) := by decide +kernel
theorem d6_23 : decode prog_30_method_6_code 23 = .ok (.arraylength, 1) := by decide +kernel
theorem d6_24 : decode prog_30_method_6_code 24 = .ok (.aload_n 1, 1) := by decide +kernel
theorem d6_25 : decode prog_30_method_6_code 25 = .ok (.arraylength, 1) := by decide +kernel
theorem d6_26 : decode prog_30_method_6_code 26 = .ok (.invokestatic 35, 3) := by decide +kernel
theorem d6_29 : decode prog_30_method_6_code 29 = .ok (.aload_n 2, 1) := by decide +kernel
theorem d6_30 : decode prog_30_method_6_code 30 = .ok (.areturn, 1) := by decide +kernel
theorem own_ef34 (m : MethodId) (a1 : Addr) (a2 : Addr) : entryFrame m #[(.ref a1), (.ref a2)] 3 = mkF m 0 #[.val (.ref a1), .val (.ref a2), .unset] [] := by first | (simp [entryFrame, mkF, argsToLocals, Value.category]; done) | rfl
def Q_own_value (Z : State) (a1 : Addr) (a2 : Addr) (h0 : Heap) (n0 : Nat) (b1 : Addr) (kb1 k_a2 : ClassId) (z z2 : Int32) (vs vk : List Value) (lz : Nat) : Option Value → Heap → List Loc → Prop := fun v h L => ∃ b kb, ∃ us : List Value, v = some (.ref b) ∧ Fr n0 L ∧ Keep h0 h [] ∧ h0.size ≤ b ∧ Exa Z h b "[B" ∧ Arv Z h b kb .byte (z + z2) us (.int (0 : Int32)) ∧ us.length = lz + 4 ∧ ∀ x, x < 4 → us.getD (lz + x) (.int (0 : Int32)) = vk.getD x (.int (0 : Int32))
set_option maxRecDepth 65536 in
set_option maxHeartbeats 40000000 in
theorem own_value (l : Launch) (Z : State) (a0 : Array Value) (hw : ∀ d ∈ tables_1, d.before a0 Z = true)  (a1 : Addr) (a2 : Addr) (h0 : Heap) (n0 : Nat) (b1 : Addr) (kb1 k_a2 : ClassId) (z z2 : Int32) (vs vk : List Value) (lz : Nat) (Z0 : n0 ≤ h0.size) (F_a1_header : Fld Z h0 a1 "com/example/lacuna/lacuna/keys/MulticodecKey" "header" "[B" (.ref b1)) (E_b1 : Exa Z h0 b1 "[B") (A_b1 : Arv Z h0 b1 kb1 .byte z vs (.int (0 : Int32))) (hz : z.toInt = (lz : Int)) (hvl : vs.length = lz) (hl5 : lz ≤ 5) (A_a2 : Arv Z h0 a2 k_a2 .byte z2 vk (.int (0 : Int32))) (E_a2 : Exa Z h0 a2 "[B") (hz2 : z2.toInt = ((4 : Nat) : Int)) :
    ownMet l Z (⟨"com/example/lacuna/lacuna/keys/MulticodecKey", "value", "([B)[B"⟩ : MethodName) prog_30_method_6_code 3 (some (.array .byte)) [] ({ frames := 2, cells := 1, slots := 9, locals := 100 } : Room) #[(.ref a1), (.ref a2)] h0 (Q_own_value Z a1 a2 h0 n0 b1 kb1 k_a2 z z2 vs vk lz) := by
  refine ownBody (plainFor_of_name own_pn1) ?_
  intro p e s m below meth c T0 hx hby hml hret hlk hZ hown hnm X0 e0
  have N0 : Fr n0 [] := Fr.nil n0
  refine ownVia (fun _ k => castTop (own_ef34 m a1 a2) k) ?_
  show ownFin _ _ _ _ _ (T0.setTop (mkF m 0 #[.val (.ref a1), .val (.ref a2), .unset] []))
  have K0 : Keep h0 h0 [] := Keep.refl _ _
  refine ownVia (fun _ k => XS.aloadN X0.here hx rfl (hb hby d6_0) rfl rfl k) ?_
  show ownFin _ _ _ _ _ (T0.setTop (mkF m 1 #[.val (.ref a1), .val (.ref a2), .unset] [(.ref a1)]))
  obtain ⟨T35, X35, e35, st35⟩ := getF X0 hx hZ hown (host := "") (Or.inl (hw _ (List.mem_of_getElem? (i := 25) rfl))) Via.refl e0 F_a1_header (g := (mkF m 1 #[.val (.ref a1), .val (.ref a2), .unset] [(.ref a1)])) rfl rfl (hb hby d6_1)
  refine ownVia st35 ?_
  show ownFin _ _ _ _ _ (T35.setTop (mkF m 4 #[.val (.ref a1), .val (.ref a2), .unset] [(.ref b1)]))
  refine ownVia (fun _ k => XS.aloadN X35.here hx rfl (hb hby d6_4) rfl rfl k) ?_
  show ownFin _ _ _ _ _ (T35.setTop (mkF m 5 #[.val (.ref a1), .val (.ref a2), .unset] [(.ref a1), (.ref b1)]))
  obtain ⟨T36, X36, e36, st36⟩ := getF X35 hx hZ hown (host := "") (Or.inl (hw _ (List.mem_of_getElem? (i := 25) rfl))) Via.refl e35 F_a1_header (g := (mkF m 5 #[.val (.ref a1), .val (.ref a2), .unset] [(.ref a1), (.ref b1)])) rfl rfl (hb hby d6_5)
  refine ownVia st36 ?_
  show ownFin _ _ _ _ _ (T36.setTop (mkF m 8 #[.val (.ref a1), .val (.ref a2), .unset] [(.ref b1), (.ref b1)]))
  refine ownLen X36 hx hZ e36 A_b1 (hb hby d6_8) ?_
  show ownFin _ _ _ _ _ (T36.setTop (mkF m 9 #[.val (.ref a1), .val (.ref a2), .unset] [(.int z), (.ref b1)]))
  refine ownVia (fun _ k => XS.aloadN X36.here hx rfl (hb hby d6_9) rfl rfl k) ?_
  show ownFin _ _ _ _ _ (T36.setTop (mkF m 10 #[.val (.ref a1), .val (.ref a2), .unset] [(.ref a2), (.int z), (.ref b1)]))
  refine ownLen X36 hx hZ e36 A_a2 (hb hby d6_10) ?_
  show ownFin _ _ _ _ _ (T36.setTop (mkF m 11 #[.val (.ref a1), .val (.ref a2), .unset] [(.int z2), (.int z), (.ref b1)]))
  refine ownVia (fun _ k => XS.iadd X36.here hx rfl (hb hby d6_11) rfl k) ?_
  show ownFin _ _ _ _ _ (T36.setTop (mkF m 12 #[.val (.ref a1), .val (.ref a2), .unset] [(.int (z + z2)), (.ref b1)]))
  have hsum := own_add hz hz2 (by omega)
  refine ownCallS X36 hx hZ hown (hw _ (List.mem_of_getElem? (i := 13) rfl)) (hw _ (List.mem_of_getElem? (i := 14) rfl)) (hw _ (List.mem_of_getElem? (i := 15) rfl)) (hw _ (List.mem_of_getElem? (i := 16) rfl)) (by decide) e36 (own_co l Z a0 hw b1 (z + z2) h0 n0 kb1 z vs (lz + 4) lz Z0 A_b1 E_b1 hsum hz hvl (by omega)) (by rw [hml]; rfl) [(.ref b1), (.int (z + z2))] [] (lenOf own_pd3 rfl) rfl rfl 0 rfl (hb hby d6_12) (by decide) (by decide) (by decide) (by decide) ?_
  intro v37 T37 L37 X37 hq37
  obtain ⟨b2, kb2, rfl, N37q, K37, sq37, E_b2, A_b2⟩ := hq37
  have ne_a1_b2 : a1 ≠ b2 := Nat.ne_of_lt (Nat.lt_of_lt_of_le F_a1_header.lt sq37)
  have ne_a2_b2 : a2 ≠ b2 := Nat.ne_of_lt (Nat.lt_of_lt_of_le A_a2.lt sq37)
  have ne_b1_b2 : b1 ≠ b2 := Nat.ne_of_lt (Nat.lt_of_lt_of_le A_b1.lt sq37)
  have ge_b2 : n0 ≤ b2 := Nat.le_trans Z0 sq37
  have sz_b2 : h0.size ≤ b2 := Nat.le_trans K0.1 sq37
  have F_a1_header := F_a1_header.keep K37 nin0
  have A_b1 := A_b1.keep K37 nin0
  have E_b1 := E_b1.keep K37
  have A_a2 := A_a2.keep K37 nin0
  have E_a2 := E_a2.keep K37
  have K0 := K0.trans K37 all0
  have Z0 := Nat.le_trans Z0 K37.1
  have N37 := Fr.app N0 N37q
  show ownFin _ _ _ _ _ (T37.setTop (mkF m 15 #[.val (.ref a1), .val (.ref a2), .unset] [(.ref b2)]))
  refine ownVia (fun _ k => XS.astoreN X37.here hx rfl (hb hby d6_15) rfl rfl (l' := #[.val (.ref a1), .val (.ref a2), .val (.ref b2)]) rfl k) ?_
  show ownFin _ _ _ _ _ (T37.setTop (mkF m 16 #[.val (.ref a1), .val (.ref a2), .val (.ref b2)] []))
  refine ownVia (fun _ k => XS.aloadN X37.here hx rfl (hb hby d6_16) rfl rfl k) ?_
  show ownFin _ _ _ _ _ (T37.setTop (mkF m 17 #[.val (.ref a1), .val (.ref a2), .val (.ref b2)] [(.ref a2)]))
  refine ownVia (fun _ k => XS.iconst X37.here hx rfl (hb hby d6_17) k) ?_
  show ownFin _ _ _ _ _ (T37.setTop (mkF m 18 #[.val (.ref a1), .val (.ref a2), .val (.ref b2)] [(.int (0 : Int32)), (.ref a2)]))
  refine ownVia (fun _ k => XS.aloadN X37.here hx rfl (hb hby d6_18) rfl rfl k) ?_
  show ownFin _ _ _ _ _ (T37.setTop (mkF m 19 #[.val (.ref a1), .val (.ref a2), .val (.ref b2)] [(.ref b2), (.int (0 : Int32)), (.ref a2)]))
  refine ownVia (fun _ k => XS.aloadN X37.here hx rfl (hb hby d6_19) rfl rfl k) ?_
  show ownFin _ _ _ _ _ (T37.setTop (mkF m 20 #[.val (.ref a1), .val (.ref a2), .val (.ref b2)] [(.ref a1), (.ref b2), (.int (0 : Int32)), (.ref a2)]))
  obtain ⟨T38, X38, e38, st38⟩ := getF X37 hx hZ hown (host := "") (Or.inl (hw _ (List.mem_of_getElem? (i := 25) rfl))) Via.refl (rfl : T37.heap = T37.heap) F_a1_header (g := (mkF m 20 #[.val (.ref a1), .val (.ref a2), .val (.ref b2)] [(.ref a1), (.ref b2), (.int (0 : Int32)), (.ref a2)])) rfl rfl (hb hby d6_20)
  refine ownVia st38 ?_
  show ownFin _ _ _ _ _ (T38.setTop (mkF m 23 #[.val (.ref a1), .val (.ref a2), .val (.ref b2)] [(.ref b1), (.ref b2), (.int (0 : Int32)), (.ref a2)]))
  refine ownLen X38 hx hZ e38 A_b1 (hb hby d6_23) ?_
  show ownFin _ _ _ _ _ (T38.setTop (mkF m 24 #[.val (.ref a1), .val (.ref a2), .val (.ref b2)] [(.int z), (.ref b2), (.int (0 : Int32)), (.ref a2)]))
  refine ownVia (fun _ k => XS.aloadN X38.here hx rfl (hb hby d6_24) rfl rfl k) ?_
  show ownFin _ _ _ _ _ (T38.setTop (mkF m 25 #[.val (.ref a1), .val (.ref a2), .val (.ref b2)] [(.ref a2), (.int z), (.ref b2), (.int (0 : Int32)), (.ref a2)]))
  refine ownLen X38 hx hZ e38 A_a2 (hb hby d6_25) ?_
  show ownFin _ _ _ _ _ (T38.setTop (mkF m 26 #[.val (.ref a1), .val (.ref a2), .val (.ref b2)] [(.int z2), (.int z), (.ref b2), (.int (0 : Int32)), (.ref a2)]))
  refine ownCopy X38 hx hZ hown (hw _ (List.mem_of_getElem? (i := 34) rfl)) (hw _ (List.mem_of_getElem? (i := 24) rfl)) (hw _ (List.mem_of_getElem? (i := 22) rfl)) (hw _ (List.mem_of_getElem? (i := 23) rfl)) e38 A_a2 A_b2 rfl (0) (lz) (4) (4) (lz + 4) (by decide) hz hz2 hz2 hsum (by omega) (by omega) (by simp) N37 ge_b2 (by rw [hml]; rfl) (hb hby d6_26) (by decide) 0 rfl (by decide) ?_
  intro T39 h39 L39 X39 e39 N39 Kc39 A_b2
  have F_a1_header := F_a1_header.keep Kc39 (ninS ne_a1_b2 nin0)
  have A_b1 := A_b1.keep Kc39 (ninS ne_b1_b2 nin0)
  have E_b1 := E_b1.keep Kc39
  have A_a2 := A_a2.keep Kc39 (ninS ne_a2_b2 nin0)
  have E_a2 := E_a2.keep Kc39
  have E_b2 := E_b2.keep Kc39
  have K0 := K0.trans Kc39 (allS (Or.inr sz_b2) all0)
  have Z0 := Nat.le_trans Z0 Kc39.1
  show ownFin _ _ _ _ _ (T39.setTop (mkF m 29 #[.val (.ref a1), .val (.ref a2), .val (.ref b2)] []))
  refine ownVia (fun _ k => XS.aloadN X39.here hx rfl (hb hby d6_29) rfl rfl k) ?_
  show ownFin _ _ _ _ _ (T39.setTop (mkF m 30 #[.val (.ref a1), .val (.ref a2), .val (.ref b2)] [(.ref b2)]))
  refine ownRetA X39 hx hlk (ty := (.array .byte)) hret rfl (hb hby d6_30) (by decide) (by decide) ?_
  show (Q_own_value Z a1 a2 h0 n0 b1 kb1 k_a2 z z2 vs vk lz) (some (.ref b2)) T39.heap _
  rw [e39]
  exact ⟨b2, kb2, _, rfl, N39, K0, sz_b2, E_b2, A_b2, own_len _ _ _ _ _, fun x hx => own_val hx⟩
theorem d7_0 : decode prog_30_method_5_code 0 = .ok (.aload_n 1, 1) := by decide +kernel
theorem d7_1 : decode prog_30_method_5_code 1 = .ok (.aload_n 0, 1) := by decide +kernel
theorem d7_2 : decode prog_30_method_5_code 2 = .ok (.getfield 13, 3) := by decide +kernel
theorem d7_5 : decode prog_30_method_5_code 5 = .ok (.arraylength, 1) := by decide +kernel
theorem d7_6 : decode prog_30_method_5_code 6 = .ok (.aload_n 1, 1) := by decide +kernel
theorem d7_7 : decode prog_30_method_5_code 7 = .ok (.arraylength, 1) := by decide +kernel
theorem d7_8 : decode prog_30_method_5_code 8 = .ok (.invokestatic 27, 3) := by decide +kernel
theorem d7_11 : decode prog_30_method_5_code 11 = .ok (.areturn, 1) := by decide +kernel
theorem own_ef40 (m : MethodId) (a1 : Addr) (a2 : Addr) : entryFrame m #[(.ref a1), (.ref a2)] 2 = mkF m 0 #[.val (.ref a1), .val (.ref a2)] [] := by first | (simp [entryFrame, mkF, argsToLocals, Value.category]; done) | rfl
def Q_own_key (Z : State) (a1 : Addr) (a2 : Addr) (h0 : Heap) (n0 : Nat) (b1 : Addr) (kb1 k_a2 : ClassId) (z z2 : Int32) (vs vk : List Value) (lz : Nat) : Option Value → Heap → List Loc → Prop := fun v h L => ∃ b kb, v = some (.ref b) ∧ Fr n0 L ∧ Keep h0 h [] ∧ h0.size ≤ b ∧ Exa Z h b "[B" ∧ Arv Z h b kb .byte (z2 - z) ((List.range ((lz + 4) - lz)).map fun x => vk.getD (lz + x) (.int (0 : Int32))) (.int (0 : Int32))
set_option maxRecDepth 65536 in
set_option maxHeartbeats 40000000 in
theorem own_key (l : Launch) (Z : State) (a0 : Array Value) (hw : ∀ d ∈ tables_1, d.before a0 Z = true)  (a1 : Addr) (a2 : Addr) (h0 : Heap) (n0 : Nat) (b1 : Addr) (kb1 k_a2 : ClassId) (z z2 : Int32) (vs vk : List Value) (lz : Nat) (Z0 : n0 ≤ h0.size) (F_a1_header : Fld Z h0 a1 "com/example/lacuna/lacuna/keys/MulticodecKey" "header" "[B" (.ref b1)) (E_b1 : Exa Z h0 b1 "[B") (A_b1 : Arv Z h0 b1 kb1 .byte z vs (.int (0 : Int32))) (hz : z.toInt = (lz : Int)) (hvl : vs.length = lz) (hl5 : lz ≤ 5) (A_a2 : Arv Z h0 a2 k_a2 .byte z2 vk (.int (0 : Int32))) (E_a2 : Exa Z h0 a2 "[B") (hz2 : z2.toInt = ((lz + 4 : Nat) : Int)) (hvk : vk.length = lz + 4) :
    ownMet l Z (⟨"com/example/lacuna/lacuna/keys/MulticodecKey", "key", "([B)[B"⟩ : MethodName) prog_30_method_5_code 2 (some (.array .byte)) [] ({ frames := 3, cells := 1, slots := 9, locals := 100 } : Room) #[(.ref a1), (.ref a2)] h0 (Q_own_key Z a1 a2 h0 n0 b1 kb1 k_a2 z z2 vs vk lz) := by
  refine ownBody (plainFor_of_name own_pn1) ?_
  intro p e s m below meth c T0 hx hby hml hret hlk hZ hown hnm X0 e0
  have N0 : Fr n0 [] := Fr.nil n0
  refine ownVia (fun _ k => castTop (own_ef40 m a1 a2) k) ?_
  show ownFin _ _ _ _ _ (T0.setTop (mkF m 0 #[.val (.ref a1), .val (.ref a2)] []))
  have K0 : Keep h0 h0 [] := Keep.refl _ _
  refine ownVia (fun _ k => XS.aloadN X0.here hx rfl (hb hby d7_0) rfl rfl k) ?_
  show ownFin _ _ _ _ _ (T0.setTop (mkF m 1 #[.val (.ref a1), .val (.ref a2)] [(.ref a2)]))
  refine ownVia (fun _ k => XS.aloadN X0.here hx rfl (hb hby d7_1) rfl rfl k) ?_
  show ownFin _ _ _ _ _ (T0.setTop (mkF m 2 #[.val (.ref a1), .val (.ref a2)] [(.ref a1), (.ref a2)]))
  obtain ⟨T41, X41, e41, st41⟩ := getF X0 hx hZ hown (host := "") (Or.inl (hw _ (List.mem_of_getElem? (i := 25) rfl))) Via.refl e0 F_a1_header (g := (mkF m 2 #[.val (.ref a1), .val (.ref a2)] [(.ref a1), (.ref a2)])) rfl rfl (hb hby d7_2)
  refine ownVia st41 ?_
  show ownFin _ _ _ _ _ (T41.setTop (mkF m 5 #[.val (.ref a1), .val (.ref a2)] [(.ref b1), (.ref a2)]))
  refine ownLen X41 hx hZ e41 A_b1 (hb hby d7_5) ?_
  show ownFin _ _ _ _ _ (T41.setTop (mkF m 6 #[.val (.ref a1), .val (.ref a2)] [(.int z), (.ref a2)]))
  refine ownVia (fun _ k => XS.aloadN X41.here hx rfl (hb hby d7_6) rfl rfl k) ?_
  show ownFin _ _ _ _ _ (T41.setTop (mkF m 7 #[.val (.ref a1), .val (.ref a2)] [(.ref a2), (.int z), (.ref a2)]))
  refine ownLen X41 hx hZ e41 A_a2 (hb hby d7_7) ?_
  show ownFin _ _ _ _ _ (T41.setTop (mkF m 8 #[.val (.ref a1), .val (.ref a2)] [(.int z2), (.int z), (.ref a2)]))
  refine ownCallS X41 hx hZ hown (hw _ (List.mem_of_getElem? (i := 40) rfl)) (hw _ (List.mem_of_getElem? (i := 41) rfl)) (hw _ (List.mem_of_getElem? (i := 15) rfl)) (hw _ (List.mem_of_getElem? (i := 42) rfl)) (by decide) e41 (own_cr l Z a0 hw a2 z z2 h0 n0 k_a2 z2 vk lz (lz + 4) (lz + 4) Z0 A_a2 E_a2 hz hz2 hz2 hvk (by omega) (by omega) (by omega)) (by rw [hml]; rfl) [(.ref a2), (.int z), (.int z2)] [] (lenOf own_pd2 rfl) rfl rfl 0 rfl (hb hby d7_8) (by decide) (by decide) (by decide) (by decide) ?_
  intro v42 T42 L42 X42 hq42
  obtain ⟨b2, kb2, rfl, N42q, K42, sq42, E_b2, A_b2⟩ := hq42
  have ne_a1_b2 : a1 ≠ b2 := Nat.ne_of_lt (Nat.lt_of_lt_of_le F_a1_header.lt sq42)
  have ne_a2_b2 : a2 ≠ b2 := Nat.ne_of_lt (Nat.lt_of_lt_of_le A_a2.lt sq42)
  have ne_b1_b2 : b1 ≠ b2 := Nat.ne_of_lt (Nat.lt_of_lt_of_le A_b1.lt sq42)
  have ge_b2 : n0 ≤ b2 := Nat.le_trans Z0 sq42
  have sz_b2 : h0.size ≤ b2 := Nat.le_trans K0.1 sq42
  have F_a1_header := F_a1_header.keep K42 nin0
  have A_b1 := A_b1.keep K42 nin0
  have E_b1 := E_b1.keep K42
  have A_a2 := A_a2.keep K42 nin0
  have E_a2 := E_a2.keep K42
  have K0 := K0.trans K42 all0
  have Z0 := Nat.le_trans Z0 K42.1
  have N42 := Fr.app N0 N42q
  show ownFin _ _ _ _ _ (T42.setTop (mkF m 11 #[.val (.ref a1), .val (.ref a2)] [(.ref b2)]))
  refine ownRetA X42 hx hlk (ty := (.array .byte)) hret rfl (hb hby d7_11) (by decide) (by decide) ?_
  show (Q_own_key Z a1 a2 h0 n0 b1 kb1 k_a2 z z2 vs vk lz) (some (.ref b2)) T42.heap _
  exact ⟨b2, kb2, rfl, N42, K0, sz_b2, E_b2, A_b2⟩
theorem own_pn2 : plainName "com/example/lacuna/lacuna/keys/MulticodecKeyKeyPinLaw" = true := by first | (simp [plainName, overriddenIn]; done) | decide +kernel
theorem own_ef43 (m : MethodId) (p1 : Int32) (p2 : Int32) : entryFrame m #[(.int p1), (.int p2)] maxLocals = mkF m 0 #[.val (.int p1), .val (.int p2), .unset, .unset, .unset, .unset] [] := by first | (simp [entryFrame, mkF, argsToLocals, Value.category, maxLocals]; done) | rfl
def Q_own_law (Z : State) (p1 : Int32) (p2 : Int32) (h0 : Heap) (n0 : Nat)  : Option Value → Heap → List Loc → Prop := fun v h L => v = some (.int 1) ∧ Fr n0 L
theorem own_pd5 : parseMethodDescriptor "([B)[B" = some ⟨[(.array .byte)], some (.array .byte)⟩ := by decide +kernel
set_option maxRecDepth 65536 in
set_option maxHeartbeats 40000000 in
theorem own_law (l : Launch) (Z : State) (a0 : Array Value) (hw : ∀ d ∈ tables_1, d.before a0 Z = true) (ws : List Jvm.Cond) (p1 : Int32) (p2 : Int32) (h0 : Heap) (n0 : Nat)  (Z0 : n0 ≤ h0.size)  :
    ownMet l Z x code maxLocals ret ws room_1 #[(.int p1), (.int p2)] h0 (Q_own_law Z p1 p2 h0 n0 ) := by
  refine ownBody (plainFor_of_name own_pn2) ?_
  intro p e s m below meth c T0 hx hby hml hret hlk hZ hown hnm X0 e0
  have N0 : Fr n0 [] := Fr.nil n0
  have hown : s.vm.findClass "com/example/lacuna/lacuna/keys/MulticodecKeyKeyPinLaw" = some m.cls := hown
  refine ownVia (fun _ k => castTop (own_ef43 m p1 p2) k) ?_
  show ownFin _ _ _ _ _ (T0.setTop (mkF m 0 #[.val (.int p1), .val (.int p2), .unset, .unset, .unset, .unset] []))
  refine ownVia (fun _ k => XS.iconst X0.here hx rfl (hb hby at_0) k) ?_
  show ownFin _ _ _ _ _ (T0.setTop (mkF m 1 #[.val (.int p1), .val (.int p2), .unset, .unset, .unset, .unset] [(.int (4 : Int32))]))
  refine ownNewP X0 hx hZ (hw _ (List.mem_of_getElem? (i := 0) rfl)) e0 "[B" (by decide) (by decide) (4) (by decide) (4) (by decide) (by decide) (by decide) (by decide) (hb hby at_1) ?_
  intro T44 h44 k_b1 b1 g44 X44 e44 E44 A_b1 E_b1
  have ge_b1 : n0 ≤ b1 := Nat.le_trans Z0 (Nat.le_of_eq g44.symm)
  have Z0 := own_sz Z0 E44
  have A_b1 : Arv Z h44 b1 k_b1 .byte (4 : Int32) [(.int (0 : Int32)), (.int (0 : Int32)), (.int (0 : Int32)), (.int (0 : Int32))] (.int (0 : Int32)) := A_b1
  show ownFin _ _ _ _ _ (T44.setTop (mkF m 3 #[.val (.int p1), .val (.int p2), .unset, .unset, .unset, .unset] [(.ref b1)]))
  refine ownVia (fun _ k => XS.astoreN X44.here hx rfl (hb hby at_3) rfl rfl (l' := #[.val (.int p1), .val (.int p2), .val (.ref b1), .unset, .unset, .unset]) rfl k) ?_
  show ownFin _ _ _ _ _ (T44.setTop (mkF m 4 #[.val (.int p1), .val (.int p2), .val (.ref b1), .unset, .unset, .unset] []))
  refine ownVia (fun _ k => XS.aloadN X44.here hx rfl (hb hby at_4) rfl rfl k) ?_
  show ownFin _ _ _ _ _ (T44.setTop (mkF m 5 #[.val (.int p1), .val (.int p2), .val (.ref b1), .unset, .unset, .unset] [(.ref b1)]))
  refine ownVia (fun _ k => XS.iconst X44.here hx rfl (hb hby at_5) k) ?_
  show ownFin _ _ _ _ _ (T44.setTop (mkF m 6 #[.val (.int p1), .val (.int p2), .val (.ref b1), .unset, .unset, .unset] [(.int (0 : Int32)), (.ref b1)]))
  refine ownVia (fun _ k => XS.iloadN X44.here hx rfl (hb hby at_6) rfl k) ?_
  show ownFin _ _ _ _ _ (T44.setTop (mkF m 7 #[.val (.int p1), .val (.int p2), .val (.ref b1), .unset, .unset, .unset] [(.int p2), (.int (0 : Int32)), (.ref b1)]))
  refine ownVia (fun _ k => XS.i2b X44.here hx rfl (hb hby at_7) rfl k) ?_
  show ownFin _ _ _ _ _ (T44.setTop (mkF m 8 #[.val (.int p1), .val (.int p2), .val (.ref b1), .unset, .unset, .unset] [(.int (p2.toInt8.toInt32)), (.int (0 : Int32)), (.ref b1)]))
  refine ownBastore X44 hx hZ e44 A_b1 ⟨by decide, by decide⟩ (0) (by decide) (Nat.le_of_ble_eq_true rfl) N0 ge_b1 (hb hby at_8) ?_
  intro T45 h45 L45 X45 e45 N45 W45 A_b1
  have E_b1 := E_b1.wr W45
  have Z0 := own_szW Z0 W45
  have A_b1 : Arv Z h45 b1 k_b1 .byte (4 : Int32) [(.int (nar .byte (p2.toInt8.toInt32))), (.int (0 : Int32)), (.int (0 : Int32)), (.int (0 : Int32))] (.int (0 : Int32)) := A_b1
  show ownFin _ _ _ _ _ (T45.setTop (mkF m 9 #[.val (.int p1), .val (.int p2), .val (.ref b1), .unset, .unset, .unset] []))
  refine ownVia (fun _ k => XS.aloadN X45.here hx rfl (hb hby at_9) rfl rfl k) ?_
  show ownFin _ _ _ _ _ (T45.setTop (mkF m 10 #[.val (.int p1), .val (.int p2), .val (.ref b1), .unset, .unset, .unset] [(.ref b1)]))
  refine ownVia (fun _ k => XS.iconst X45.here hx rfl (hb hby at_10) k) ?_
  show ownFin _ _ _ _ _ (T45.setTop (mkF m 11 #[.val (.int p1), .val (.int p2), .val (.ref b1), .unset, .unset, .unset] [(.int (1 : Int32)), (.ref b1)]))
  refine ownVia (fun _ k => XS.iloadN X45.here hx rfl (hb hby at_11) rfl k) ?_
  show ownFin _ _ _ _ _ (T45.setTop (mkF m 12 #[.val (.int p1), .val (.int p2), .val (.ref b1), .unset, .unset, .unset] [(.int p2), (.int (1 : Int32)), (.ref b1)]))
  refine ownVia (fun _ k => XS.bipush X45.here hx rfl (hb hby at_12) k) ?_
  show ownFin _ _ _ _ _ (T45.setTop (mkF m 14 #[.val (.int p1), .val (.int p2), .val (.ref b1), .unset, .unset, .unset] [(.int (8 : Int32)), (.int p2), (.int (1 : Int32)), (.ref b1)]))
  refine ownVia (fun _ k => XS.iushr X45.here hx rfl (hb hby at_14) rfl k) ?_
  show ownFin _ _ _ _ _ (T45.setTop (mkF m 15 #[.val (.int p1), .val (.int p2), .val (.ref b1), .unset, .unset, .unset] [(.int ((p2.toUInt32 >>> ((8 : Int32) &&& 31).toUInt32).toInt32)), (.int (1 : Int32)), (.ref b1)]))
  refine ownVia (fun _ k => XS.i2b X45.here hx rfl (hb hby at_15) rfl k) ?_
  show ownFin _ _ _ _ _ (T45.setTop (mkF m 16 #[.val (.int p1), .val (.int p2), .val (.ref b1), .unset, .unset, .unset] [(.int (((p2.toUInt32 >>> ((8 : Int32) &&& 31).toUInt32).toInt32).toInt8.toInt32)), (.int (1 : Int32)), (.ref b1)]))
  refine ownBastore X45 hx hZ e45 A_b1 ⟨by decide, by decide⟩ (1) (by decide) (Nat.le_of_ble_eq_true rfl) N45 ge_b1 (hb hby at_16) ?_
  intro T46 h46 L46 X46 e46 N46 W46 A_b1
  have E_b1 := E_b1.wr W46
  have Z0 := own_szW Z0 W46
  have A_b1 : Arv Z h46 b1 k_b1 .byte (4 : Int32) [(.int (nar .byte (p2.toInt8.toInt32))), (.int (nar .byte (((p2.toUInt32 >>> ((8 : Int32) &&& 31).toUInt32).toInt32).toInt8.toInt32))), (.int (0 : Int32)), (.int (0 : Int32))] (.int (0 : Int32)) := A_b1
  show ownFin _ _ _ _ _ (T46.setTop (mkF m 17 #[.val (.int p1), .val (.int p2), .val (.ref b1), .unset, .unset, .unset] []))
  refine ownVia (fun _ k => XS.aloadN X46.here hx rfl (hb hby at_17) rfl rfl k) ?_
  show ownFin _ _ _ _ _ (T46.setTop (mkF m 18 #[.val (.int p1), .val (.int p2), .val (.ref b1), .unset, .unset, .unset] [(.ref b1)]))
  refine ownVia (fun _ k => XS.iconst X46.here hx rfl (hb hby at_18) k) ?_
  show ownFin _ _ _ _ _ (T46.setTop (mkF m 19 #[.val (.int p1), .val (.int p2), .val (.ref b1), .unset, .unset, .unset] [(.int (2 : Int32)), (.ref b1)]))
  refine ownVia (fun _ k => XS.iloadN X46.here hx rfl (hb hby at_19) rfl k) ?_
  show ownFin _ _ _ _ _ (T46.setTop (mkF m 20 #[.val (.int p1), .val (.int p2), .val (.ref b1), .unset, .unset, .unset] [(.int p2), (.int (2 : Int32)), (.ref b1)]))
  refine ownVia (fun _ k => XS.bipush X46.here hx rfl (hb hby at_20) k) ?_
  show ownFin _ _ _ _ _ (T46.setTop (mkF m 22 #[.val (.int p1), .val (.int p2), .val (.ref b1), .unset, .unset, .unset] [(.int (16 : Int32)), (.int p2), (.int (2 : Int32)), (.ref b1)]))
  refine ownVia (fun _ k => XS.iushr X46.here hx rfl (hb hby at_22) rfl k) ?_
  show ownFin _ _ _ _ _ (T46.setTop (mkF m 23 #[.val (.int p1), .val (.int p2), .val (.ref b1), .unset, .unset, .unset] [(.int ((p2.toUInt32 >>> ((16 : Int32) &&& 31).toUInt32).toInt32)), (.int (2 : Int32)), (.ref b1)]))
  refine ownVia (fun _ k => XS.i2b X46.here hx rfl (hb hby at_23) rfl k) ?_
  show ownFin _ _ _ _ _ (T46.setTop (mkF m 24 #[.val (.int p1), .val (.int p2), .val (.ref b1), .unset, .unset, .unset] [(.int (((p2.toUInt32 >>> ((16 : Int32) &&& 31).toUInt32).toInt32).toInt8.toInt32)), (.int (2 : Int32)), (.ref b1)]))
  refine ownBastore X46 hx hZ e46 A_b1 ⟨by decide, by decide⟩ (2) (by decide) (Nat.le_of_ble_eq_true rfl) N46 ge_b1 (hb hby at_24) ?_
  intro T47 h47 L47 X47 e47 N47 W47 A_b1
  have E_b1 := E_b1.wr W47
  have Z0 := own_szW Z0 W47
  have A_b1 : Arv Z h47 b1 k_b1 .byte (4 : Int32) [(.int (nar .byte (p2.toInt8.toInt32))), (.int (nar .byte (((p2.toUInt32 >>> ((8 : Int32) &&& 31).toUInt32).toInt32).toInt8.toInt32))), (.int (nar .byte (((p2.toUInt32 >>> ((16 : Int32) &&& 31).toUInt32).toInt32).toInt8.toInt32))), (.int (0 : Int32))] (.int (0 : Int32)) := A_b1
  show ownFin _ _ _ _ _ (T47.setTop (mkF m 25 #[.val (.int p1), .val (.int p2), .val (.ref b1), .unset, .unset, .unset] []))
  refine ownVia (fun _ k => XS.aloadN X47.here hx rfl (hb hby at_25) rfl rfl k) ?_
  show ownFin _ _ _ _ _ (T47.setTop (mkF m 26 #[.val (.int p1), .val (.int p2), .val (.ref b1), .unset, .unset, .unset] [(.ref b1)]))
  refine ownVia (fun _ k => XS.iconst X47.here hx rfl (hb hby at_26) k) ?_
  show ownFin _ _ _ _ _ (T47.setTop (mkF m 27 #[.val (.int p1), .val (.int p2), .val (.ref b1), .unset, .unset, .unset] [(.int (3 : Int32)), (.ref b1)]))
  refine ownVia (fun _ k => XS.iloadN X47.here hx rfl (hb hby at_27) rfl k) ?_
  show ownFin _ _ _ _ _ (T47.setTop (mkF m 28 #[.val (.int p1), .val (.int p2), .val (.ref b1), .unset, .unset, .unset] [(.int p2), (.int (3 : Int32)), (.ref b1)]))
  refine ownVia (fun _ k => XS.bipush X47.here hx rfl (hb hby at_28) k) ?_
  show ownFin _ _ _ _ _ (T47.setTop (mkF m 30 #[.val (.int p1), .val (.int p2), .val (.ref b1), .unset, .unset, .unset] [(.int (24 : Int32)), (.int p2), (.int (3 : Int32)), (.ref b1)]))
  refine ownVia (fun _ k => XS.iushr X47.here hx rfl (hb hby at_30) rfl k) ?_
  show ownFin _ _ _ _ _ (T47.setTop (mkF m 31 #[.val (.int p1), .val (.int p2), .val (.ref b1), .unset, .unset, .unset] [(.int ((p2.toUInt32 >>> ((24 : Int32) &&& 31).toUInt32).toInt32)), (.int (3 : Int32)), (.ref b1)]))
  refine ownVia (fun _ k => XS.i2b X47.here hx rfl (hb hby at_31) rfl k) ?_
  show ownFin _ _ _ _ _ (T47.setTop (mkF m 32 #[.val (.int p1), .val (.int p2), .val (.ref b1), .unset, .unset, .unset] [(.int (((p2.toUInt32 >>> ((24 : Int32) &&& 31).toUInt32).toInt32).toInt8.toInt32)), (.int (3 : Int32)), (.ref b1)]))
  refine ownBastore X47 hx hZ e47 A_b1 ⟨by decide, by decide⟩ (3) (by decide) (Nat.le_of_ble_eq_true rfl) N47 ge_b1 (hb hby at_32) ?_
  intro T48 h48 L48 X48 e48 N48 W48 A_b1
  have E_b1 := E_b1.wr W48
  have Z0 := own_szW Z0 W48
  have A_b1 : Arv Z h48 b1 k_b1 .byte (4 : Int32) [(.int (nar .byte (p2.toInt8.toInt32))), (.int (nar .byte (((p2.toUInt32 >>> ((8 : Int32) &&& 31).toUInt32).toInt32).toInt8.toInt32))), (.int (nar .byte (((p2.toUInt32 >>> ((16 : Int32) &&& 31).toUInt32).toInt32).toInt8.toInt32))), (.int (nar .byte (((p2.toUInt32 >>> ((24 : Int32) &&& 31).toUInt32).toInt32).toInt8.toInt32)))] (.int (0 : Int32)) := A_b1
  show ownFin _ _ _ _ _ (T48.setTop (mkF m 33 #[.val (.int p1), .val (.int p2), .val (.ref b1), .unset, .unset, .unset] []))
  obtain ⟨T49, h49, X49, e49, E49, A49, D49, -, st49⟩ := newO X48 hx hZ hown (hw _ (List.mem_of_getElem? (i := 1) rfl)) (hw _ (List.mem_of_getElem? (i := 2) rfl)) (hw _ (List.mem_of_getElem? (i := 3) rfl)) e48 (g := (mkF m 33 #[.val (.int p1), .val (.int p2), .val (.ref b1), .unset, .unset, .unset] [])) rfl (hb hby at_33) (by decide) (by decide)
  obtain ⟨b2, g49⟩ : ∃ z, z = h48.size := ⟨_, rfl⟩
  rw [← g49] at A49 D49 st49
  have ne_b1_b2 : b1 ≠ b2 := Nat.ne_of_lt (Nat.lt_of_lt_of_le A_b1.lt (Nat.le_of_eq g49.symm))
  have ge_b2 : n0 ≤ b2 := Nat.le_trans Z0 (Nat.le_of_eq g49.symm)
  have A_b1 := A_b1.ext E49
  have E_b1 := E_b1.ext E49
  have Z0 := own_sz Z0 E49
  have E_b2 := A49
  have F_b2_header : Fld Z h49 b2 "com/example/lacuna/lacuna/keys/MulticodecKey" "header" "[B" .null := D49 (Or.inr (hw _ (List.mem_of_getElem? (i := 26) rfl))) (ty := (.array .byte)) (by decide)
  have F_b2_keyLength : Fld Z h49 b2 "com/example/lacuna/lacuna/keys/MulticodecKey" "keyLength" "I" (.int (0 : Int32)) := D49 (Or.inr (hw _ (List.mem_of_getElem? (i := 28) rfl))) (ty := .int) (by decide)
  refine ownVia st49 ?_
  show ownFin _ _ _ _ _ (T49.setTop (mkF m 36 #[.val (.int p1), .val (.int p2), .val (.ref b1), .unset, .unset, .unset] [(.ref b2)]))
  refine ownVia (fun _ k => XS.dup X49.here hx rfl (hb hby at_36) rfl rfl k) ?_
  show ownFin _ _ _ _ _ (T49.setTop (mkF m 37 #[.val (.int p1), .val (.int p2), .val (.ref b1), .unset, .unset, .unset] [(.ref b2), (.ref b2)]))
  refine ownVia (fun _ k => XS.iloadN X49.here hx rfl (hb hby at_37) rfl k) ?_
  show ownFin _ _ _ _ _ (T49.setTop (mkF m 38 #[.val (.int p1), .val (.int p2), .val (.ref b1), .unset, .unset, .unset] [(.int p1), (.ref b2), (.ref b2)]))
  refine ownVia (fun _ k => XS.iconst X49.here hx rfl (hb hby at_38) k) ?_
  show ownFin _ _ _ _ _ (T49.setTop (mkF m 39 #[.val (.int p1), .val (.int p2), .val (.ref b1), .unset, .unset, .unset] [(.int (4 : Int32)), (.int p1), (.ref b2), (.ref b2)]))
  refine ownCallN X49 hx hZ hown rfl (hw _ (List.mem_of_getElem? (i := 4) rfl)) (hw _ (List.mem_of_getElem? (i := 5) rfl)) (hw _ (List.mem_of_getElem? (i := 3) rfl)) (hw _ (List.mem_of_getElem? (i := 6) rfl)) (by decide) e49 (own_init l Z a0 hw b2 p1 (4 : Int32) h49 n0 Z0 F_b2_header F_b2_keyLength E_b2 ge_b2) (by rw [hml]; rfl) b2 [(.int p1), (.int (4 : Int32))] [(.ref b2)] (lenOf own_pd0 rfl) rfl rfl 1 rfl (hb hby at_39) (by decide) (by decide) (by decide) (by decide) ?_
  intro v50 T50 L50 X50 hq50
  obtain ⟨rfl, N50q, K50, b3, kb3, z, vs, lz, sq50, E_b3, A_b3, hz, hvl, h1l, hl5, F_b2_header⟩ := hq50
  have ne_b1_b3 : b1 ≠ b3 := Nat.ne_of_lt (Nat.lt_of_lt_of_le A_b1.lt sq50)
  have ne_b2_b3 : b2 ≠ b3 := Nat.ne_of_lt (Nat.lt_of_lt_of_le E_b2.lt sq50)
  have ge_b3 : n0 ≤ b3 := Nat.le_trans Z0 sq50
  have A_b1 := A_b1.keep K50 (ninS ne_b1_b2 nin0)
  have E_b1 := E_b1.keep K50
  have E_b2 := E_b2.keep K50
  have Z0 := Nat.le_trans Z0 K50.1
  have N50 := Fr.app N48 N50q
  show ownFin _ _ _ _ _ (T50.setTop (mkF m 42 #[.val (.int p1), .val (.int p2), .val (.ref b1), .unset, .unset, .unset] [(.ref b2)]))
  refine ownVia (fun _ k => XS.astoreN X50.here hx rfl (hb hby at_42) rfl rfl (l' := #[.val (.int p1), .val (.int p2), .val (.ref b1), .val (.ref b2), .unset, .unset]) rfl k) ?_
  show ownFin _ _ _ _ _ (T50.setTop (mkF m 43 #[.val (.int p1), .val (.int p2), .val (.ref b1), .val (.ref b2), .unset, .unset] []))
  refine ownVia (fun _ k => XS.aloadN X50.here hx rfl (hb hby at_43) rfl rfl k) ?_
  show ownFin _ _ _ _ _ (T50.setTop (mkF m 44 #[.val (.int p1), .val (.int p2), .val (.ref b1), .val (.ref b2), .unset, .unset] [(.ref b2)]))
  refine ownVia (fun _ k => XS.aloadN X50.here hx rfl (hb hby at_44) rfl rfl k) ?_
  show ownFin _ _ _ _ _ (T50.setTop (mkF m 45 #[.val (.int p1), .val (.int p2), .val (.ref b1), .val (.ref b2), .unset, .unset] [(.ref b1), (.ref b2)]))
  have hk4 : (4 : Int32).toInt = ((4 : Nat) : Int) := by decide
  refine ownCallV X50 hx hZ hown (hw _ (List.mem_of_getElem? (i := 29) rfl)) (hw _ (List.mem_of_getElem? (i := 30) rfl)) (hw _ (List.mem_of_getElem? (i := 32) rfl)) (hw _ (List.mem_of_getElem? (i := 32) rfl)) (hw _ (List.mem_of_getElem? (i := 31) rfl)) (hw _ (List.mem_of_getElem? (i := 3) rfl)) (hw _ (List.mem_of_getElem? (i := 33) rfl)) (by decide) (rfl : T50.heap = T50.heap) E_b2 (own_value l Z a0 hw b2 b1 T50.heap n0 b3 kb3 k_b1 z (4 : Int32) vs [(.int (nar .byte (p2.toInt8.toInt32))), (.int (nar .byte (((p2.toUInt32 >>> ((8 : Int32) &&& 31).toUInt32).toInt32).toInt8.toInt32))), (.int (nar .byte (((p2.toUInt32 >>> ((16 : Int32) &&& 31).toUInt32).toInt32).toInt8.toInt32))), (.int (nar .byte (((p2.toUInt32 >>> ((24 : Int32) &&& 31).toUInt32).toInt32).toInt8.toInt32)))] lz Z0 F_b2_header E_b3 A_b3 hz hvl hl5 A_b1 E_b1 hk4) (by rw [hml]; rfl) [(.ref b1)] [] (lenOf own_pd5 rfl) rfl rfl 0 rfl (hb hby at_45) (by decide) (by decide) (by decide) (by decide) ?_
  intro v51 T51 L51 X51 hq51
  obtain ⟨b4, kb4, us, rfl, N51q, K51, sq51, E_b4, A_b4, hul, hus⟩ := hq51
  have ne_b1_b4 : b1 ≠ b4 := Nat.ne_of_lt (Nat.lt_of_lt_of_le A_b1.lt sq51)
  have ne_b2_b4 : b2 ≠ b4 := Nat.ne_of_lt (Nat.lt_of_lt_of_le E_b2.lt sq51)
  have ne_b3_b4 : b3 ≠ b4 := Nat.ne_of_lt (Nat.lt_of_lt_of_le A_b3.lt sq51)
  have ge_b4 : n0 ≤ b4 := Nat.le_trans Z0 sq51
  have A_b1 := A_b1.keep K51 nin0
  have E_b1 := E_b1.keep K51
  have E_b2 := E_b2.keep K51
  have F_b2_header := F_b2_header.keep K51 nin0
  have A_b3 := A_b3.keep K51 nin0
  have E_b3 := E_b3.keep K51
  have Z0 := Nat.le_trans Z0 K51.1
  have N51 := Fr.app N50 N51q
  show ownFin _ _ _ _ _ (T51.setTop (mkF m 48 #[.val (.int p1), .val (.int p2), .val (.ref b1), .val (.ref b2), .unset, .unset] [(.ref b4)]))
  refine ownVia (fun _ k => XS.astore X51.here hx rfl (hb hby at_48) rfl rfl (l' := #[.val (.int p1), .val (.int p2), .val (.ref b1), .val (.ref b2), .val (.ref b4), .unset]) rfl k) ?_
  show ownFin _ _ _ _ _ (T51.setTop (mkF m 50 #[.val (.int p1), .val (.int p2), .val (.ref b1), .val (.ref b2), .val (.ref b4), .unset] []))
  refine ownVia (fun _ k => XS.aloadN X51.here hx rfl (hb hby at_50) rfl rfl k) ?_
  show ownFin _ _ _ _ _ (T51.setTop (mkF m 51 #[.val (.int p1), .val (.int p2), .val (.ref b1), .val (.ref b2), .val (.ref b4), .unset] [(.ref b2)]))
  refine ownVia (fun _ k => XS.aload X51.here hx rfl (hb hby at_51) rfl rfl k) ?_
  show ownFin _ _ _ _ _ (T51.setTop (mkF m 53 #[.val (.int p1), .val (.int p2), .val (.ref b1), .val (.ref b2), .val (.ref b4), .unset] [(.ref b4), (.ref b2)]))
  have hsum := own_add hz hk4 (by omega)
  refine ownCallV X51 hx hZ hown (hw _ (List.mem_of_getElem? (i := 35) rfl)) (hw _ (List.mem_of_getElem? (i := 36) rfl)) (hw _ (List.mem_of_getElem? (i := 38) rfl)) (hw _ (List.mem_of_getElem? (i := 38) rfl)) (hw _ (List.mem_of_getElem? (i := 37) rfl)) (hw _ (List.mem_of_getElem? (i := 3) rfl)) (hw _ (List.mem_of_getElem? (i := 39) rfl)) (by decide) (rfl : T51.heap = T51.heap) E_b2 (own_key l Z a0 hw b2 b4 T51.heap n0 b3 kb3 kb4 z (z + (4 : Int32)) vs us lz Z0 F_b2_header E_b3 A_b3 hz hvl hl5 A_b4 E_b4 hsum hul) (by rw [hml]; rfl) [(.ref b4)] [] (lenOf own_pd5 rfl) rfl rfl 0 rfl (hb hby at_53) (by decide) (by decide) (by decide) (by decide) ?_
  intro v52 T52 L52 X52 hq52
  obtain ⟨b5, kb5, rfl, N52q, K52, sq52, E_b5, A_b5⟩ := hq52
  have ne_b1_b5 : b1 ≠ b5 := Nat.ne_of_lt (Nat.lt_of_lt_of_le A_b1.lt sq52)
  have ne_b2_b5 : b2 ≠ b5 := Nat.ne_of_lt (Nat.lt_of_lt_of_le E_b2.lt sq52)
  have ne_b3_b5 : b3 ≠ b5 := Nat.ne_of_lt (Nat.lt_of_lt_of_le A_b3.lt sq52)
  have ne_b4_b5 : b4 ≠ b5 := Nat.ne_of_lt (Nat.lt_of_lt_of_le A_b4.lt sq52)
  have ge_b5 : n0 ≤ b5 := Nat.le_trans Z0 sq52
  have A_b1 := A_b1.keep K52 nin0
  have E_b1 := E_b1.keep K52
  have E_b2 := E_b2.keep K52
  have F_b2_header := F_b2_header.keep K52 nin0
  have A_b3 := A_b3.keep K52 nin0
  have E_b3 := E_b3.keep K52
  have A_b4 := A_b4.keep K52 nin0
  have E_b4 := E_b4.keep K52
  have Z0 := Nat.le_trans Z0 K52.1
  have N52 := Fr.app N51 N52q
  show ownFin _ _ _ _ _ (T52.setTop (mkF m 56 #[.val (.int p1), .val (.int p2), .val (.ref b1), .val (.ref b2), .val (.ref b4), .unset] [(.ref b5)]))
  have hz4 : (z + (4 : Int32)) - z = (4 : Int32) := Int32.toInt_inj.mp (by rw [own_sub hsum hz (by omega), hk4]; omega)
  have h44 : (lz + 4) - lz = 4 := by omega
  rw [hz4, h44] at A_b5
  refine ownVia (fun _ k => XS.astore X52.here hx rfl (hb hby at_56) rfl rfl (l' := #[.val (.int p1), .val (.int p2), .val (.ref b1), .val (.ref b2), .val (.ref b4), .val (.ref b5)]) rfl k) ?_
  show ownFin _ _ _ _ _ (T52.setTop (mkF m 58 #[.val (.int p1), .val (.int p2), .val (.ref b1), .val (.ref b2), .val (.ref b4), .val (.ref b5)] []))
  refine ownVia (fun _ k => XS.aload X52.here hx rfl (hb hby at_58) rfl rfl k) ?_
  show ownFin _ _ _ _ _ (T52.setTop (mkF m 60 #[.val (.int p1), .val (.int p2), .val (.ref b1), .val (.ref b2), .val (.ref b4), .val (.ref b5)] [(.ref b5)]))
  refine ownLen X52 hx hZ (rfl : T52.heap = T52.heap) A_b5 (hb hby at_60) ?_
  show ownFin _ _ _ _ _ (T52.setTop (mkF m 61 #[.val (.int p1), .val (.int p2), .val (.ref b1), .val (.ref b2), .val (.ref b4), .val (.ref b5)] [(.int (4 : Int32))]))
  refine ownVia (fun _ k => XS.iconst X52.here hx rfl (hb hby at_61) k) ?_
  show ownFin _ _ _ _ _ (T52.setTop (mkF m 62 #[.val (.int p1), .val (.int p2), .val (.ref b1), .val (.ref b2), .val (.ref b4), .val (.ref b5)] [(.int (4 : Int32)), (.int (4 : Int32))]))
  refine ownVia (fun _ k => XS.icmpNo X52.here hx rfl (hb hby at_62) rfl (teq rfl).2 k) ?_
  show ownFin _ _ _ _ _ (T52.setTop (mkF m 65 #[.val (.int p1), .val (.int p2), .val (.ref b1), .val (.ref b2), .val (.ref b4), .val (.ref b5)] []))
  refine ownVia (fun _ k => XS.aload X52.here hx rfl (hb hby at_65) rfl rfl k) ?_
  show ownFin _ _ _ _ _ (T52.setTop (mkF m 67 #[.val (.int p1), .val (.int p2), .val (.ref b1), .val (.ref b2), .val (.ref b4), .val (.ref b5)] [(.ref b5)]))
  refine ownVia (fun _ k => XS.iconst X52.here hx rfl (hb hby at_67) k) ?_
  show ownFin _ _ _ _ _ (T52.setTop (mkF m 68 #[.val (.int p1), .val (.int p2), .val (.ref b1), .val (.ref b2), .val (.ref b4), .val (.ref b5)] [(.int (0 : Int32)), (.ref b5)]))
  refine ownBaload X52 hx hZ (rfl : T52.heap = T52.heap) A_b5 ⟨by decide, by decide⟩ (v := (.int (nar .byte (p2.toInt8.toInt32)))) (by rw [(by decide : (0 : Int32).toNatClampNeg = 0)]; exact (own_rg (by decide)).trans (hus 0 (by decide))) (hb hby at_68) ?_
  show ownFin _ _ _ _ _ (T52.setTop (mkF m 69 #[.val (.int p1), .val (.int p2), .val (.ref b1), .val (.ref b2), .val (.ref b4), .val (.ref b5)] [(.int (nar .byte (p2.toInt8.toInt32)))]))
  refine ownVia (fun _ k => XS.aloadN X52.here hx rfl (hb hby at_69) rfl rfl k) ?_
  show ownFin _ _ _ _ _ (T52.setTop (mkF m 70 #[.val (.int p1), .val (.int p2), .val (.ref b1), .val (.ref b2), .val (.ref b4), .val (.ref b5)] [(.ref b1), (.int (nar .byte (p2.toInt8.toInt32)))]))
  refine ownVia (fun _ k => XS.iconst X52.here hx rfl (hb hby at_70) k) ?_
  show ownFin _ _ _ _ _ (T52.setTop (mkF m 71 #[.val (.int p1), .val (.int p2), .val (.ref b1), .val (.ref b2), .val (.ref b4), .val (.ref b5)] [(.int (0 : Int32)), (.ref b1), (.int (nar .byte (p2.toInt8.toInt32)))]))
  refine ownBaload X52 hx hZ (rfl : T52.heap = T52.heap) A_b1 ⟨by decide, by decide⟩ (v := (.int (nar .byte (p2.toInt8.toInt32)))) rfl (hb hby at_71) ?_
  show ownFin _ _ _ _ _ (T52.setTop (mkF m 72 #[.val (.int p1), .val (.int p2), .val (.ref b1), .val (.ref b2), .val (.ref b4), .val (.ref b5)] [(.int (nar .byte (p2.toInt8.toInt32))), (.int (nar .byte (p2.toInt8.toInt32)))]))
  refine ownVia (fun _ k => XS.icmpNo X52.here hx rfl (hb hby at_72) rfl (teq rfl).2 k) ?_
  show ownFin _ _ _ _ _ (T52.setTop (mkF m 75 #[.val (.int p1), .val (.int p2), .val (.ref b1), .val (.ref b2), .val (.ref b4), .val (.ref b5)] []))
  refine ownVia (fun _ k => XS.aload X52.here hx rfl (hb hby at_75) rfl rfl k) ?_
  show ownFin _ _ _ _ _ (T52.setTop (mkF m 77 #[.val (.int p1), .val (.int p2), .val (.ref b1), .val (.ref b2), .val (.ref b4), .val (.ref b5)] [(.ref b5)]))
  refine ownVia (fun _ k => XS.iconst X52.here hx rfl (hb hby at_77) k) ?_
  show ownFin _ _ _ _ _ (T52.setTop (mkF m 78 #[.val (.int p1), .val (.int p2), .val (.ref b1), .val (.ref b2), .val (.ref b4), .val (.ref b5)] [(.int (1 : Int32)), (.ref b5)]))
  refine ownBaload X52 hx hZ (rfl : T52.heap = T52.heap) A_b5 ⟨by decide, by decide⟩ (v := (.int (nar .byte (((p2.toUInt32 >>> ((8 : Int32) &&& 31).toUInt32).toInt32).toInt8.toInt32)))) (by rw [(by decide : (1 : Int32).toNatClampNeg = 1)]; exact (own_rg (by decide)).trans (hus 1 (by decide))) (hb hby at_78) ?_
  show ownFin _ _ _ _ _ (T52.setTop (mkF m 79 #[.val (.int p1), .val (.int p2), .val (.ref b1), .val (.ref b2), .val (.ref b4), .val (.ref b5)] [(.int (nar .byte (((p2.toUInt32 >>> ((8 : Int32) &&& 31).toUInt32).toInt32).toInt8.toInt32)))]))
  refine ownVia (fun _ k => XS.aloadN X52.here hx rfl (hb hby at_79) rfl rfl k) ?_
  show ownFin _ _ _ _ _ (T52.setTop (mkF m 80 #[.val (.int p1), .val (.int p2), .val (.ref b1), .val (.ref b2), .val (.ref b4), .val (.ref b5)] [(.ref b1), (.int (nar .byte (((p2.toUInt32 >>> ((8 : Int32) &&& 31).toUInt32).toInt32).toInt8.toInt32)))]))
  refine ownVia (fun _ k => XS.iconst X52.here hx rfl (hb hby at_80) k) ?_
  show ownFin _ _ _ _ _ (T52.setTop (mkF m 81 #[.val (.int p1), .val (.int p2), .val (.ref b1), .val (.ref b2), .val (.ref b4), .val (.ref b5)] [(.int (1 : Int32)), (.ref b1), (.int (nar .byte (((p2.toUInt32 >>> ((8 : Int32) &&& 31).toUInt32).toInt32).toInt8.toInt32)))]))
  refine ownBaload X52 hx hZ (rfl : T52.heap = T52.heap) A_b1 ⟨by decide, by decide⟩ (v := (.int (nar .byte (((p2.toUInt32 >>> ((8 : Int32) &&& 31).toUInt32).toInt32).toInt8.toInt32)))) rfl (hb hby at_81) ?_
  show ownFin _ _ _ _ _ (T52.setTop (mkF m 82 #[.val (.int p1), .val (.int p2), .val (.ref b1), .val (.ref b2), .val (.ref b4), .val (.ref b5)] [(.int (nar .byte (((p2.toUInt32 >>> ((8 : Int32) &&& 31).toUInt32).toInt32).toInt8.toInt32))), (.int (nar .byte (((p2.toUInt32 >>> ((8 : Int32) &&& 31).toUInt32).toInt32).toInt8.toInt32)))]))
  refine ownVia (fun _ k => XS.icmpNo X52.here hx rfl (hb hby at_82) rfl (teq rfl).2 k) ?_
  show ownFin _ _ _ _ _ (T52.setTop (mkF m 85 #[.val (.int p1), .val (.int p2), .val (.ref b1), .val (.ref b2), .val (.ref b4), .val (.ref b5)] []))
  refine ownVia (fun _ k => XS.aload X52.here hx rfl (hb hby at_85) rfl rfl k) ?_
  show ownFin _ _ _ _ _ (T52.setTop (mkF m 87 #[.val (.int p1), .val (.int p2), .val (.ref b1), .val (.ref b2), .val (.ref b4), .val (.ref b5)] [(.ref b5)]))
  refine ownVia (fun _ k => XS.iconst X52.here hx rfl (hb hby at_87) k) ?_
  show ownFin _ _ _ _ _ (T52.setTop (mkF m 88 #[.val (.int p1), .val (.int p2), .val (.ref b1), .val (.ref b2), .val (.ref b4), .val (.ref b5)] [(.int (2 : Int32)), (.ref b5)]))
  refine ownBaload X52 hx hZ (rfl : T52.heap = T52.heap) A_b5 ⟨by decide, by decide⟩ (v := (.int (nar .byte (((p2.toUInt32 >>> ((16 : Int32) &&& 31).toUInt32).toInt32).toInt8.toInt32)))) (by rw [(by decide : (2 : Int32).toNatClampNeg = 2)]; exact (own_rg (by decide)).trans (hus 2 (by decide))) (hb hby at_88) ?_
  show ownFin _ _ _ _ _ (T52.setTop (mkF m 89 #[.val (.int p1), .val (.int p2), .val (.ref b1), .val (.ref b2), .val (.ref b4), .val (.ref b5)] [(.int (nar .byte (((p2.toUInt32 >>> ((16 : Int32) &&& 31).toUInt32).toInt32).toInt8.toInt32)))]))
  refine ownVia (fun _ k => XS.aloadN X52.here hx rfl (hb hby at_89) rfl rfl k) ?_
  show ownFin _ _ _ _ _ (T52.setTop (mkF m 90 #[.val (.int p1), .val (.int p2), .val (.ref b1), .val (.ref b2), .val (.ref b4), .val (.ref b5)] [(.ref b1), (.int (nar .byte (((p2.toUInt32 >>> ((16 : Int32) &&& 31).toUInt32).toInt32).toInt8.toInt32)))]))
  refine ownVia (fun _ k => XS.iconst X52.here hx rfl (hb hby at_90) k) ?_
  show ownFin _ _ _ _ _ (T52.setTop (mkF m 91 #[.val (.int p1), .val (.int p2), .val (.ref b1), .val (.ref b2), .val (.ref b4), .val (.ref b5)] [(.int (2 : Int32)), (.ref b1), (.int (nar .byte (((p2.toUInt32 >>> ((16 : Int32) &&& 31).toUInt32).toInt32).toInt8.toInt32)))]))
  refine ownBaload X52 hx hZ (rfl : T52.heap = T52.heap) A_b1 ⟨by decide, by decide⟩ (v := (.int (nar .byte (((p2.toUInt32 >>> ((16 : Int32) &&& 31).toUInt32).toInt32).toInt8.toInt32)))) rfl (hb hby at_91) ?_
  show ownFin _ _ _ _ _ (T52.setTop (mkF m 92 #[.val (.int p1), .val (.int p2), .val (.ref b1), .val (.ref b2), .val (.ref b4), .val (.ref b5)] [(.int (nar .byte (((p2.toUInt32 >>> ((16 : Int32) &&& 31).toUInt32).toInt32).toInt8.toInt32))), (.int (nar .byte (((p2.toUInt32 >>> ((16 : Int32) &&& 31).toUInt32).toInt32).toInt8.toInt32)))]))
  refine ownVia (fun _ k => XS.icmpNo X52.here hx rfl (hb hby at_92) rfl (teq rfl).2 k) ?_
  show ownFin _ _ _ _ _ (T52.setTop (mkF m 95 #[.val (.int p1), .val (.int p2), .val (.ref b1), .val (.ref b2), .val (.ref b4), .val (.ref b5)] []))
  refine ownVia (fun _ k => XS.aload X52.here hx rfl (hb hby at_95) rfl rfl k) ?_
  show ownFin _ _ _ _ _ (T52.setTop (mkF m 97 #[.val (.int p1), .val (.int p2), .val (.ref b1), .val (.ref b2), .val (.ref b4), .val (.ref b5)] [(.ref b5)]))
  refine ownVia (fun _ k => XS.iconst X52.here hx rfl (hb hby at_97) k) ?_
  show ownFin _ _ _ _ _ (T52.setTop (mkF m 98 #[.val (.int p1), .val (.int p2), .val (.ref b1), .val (.ref b2), .val (.ref b4), .val (.ref b5)] [(.int (3 : Int32)), (.ref b5)]))
  refine ownBaload X52 hx hZ (rfl : T52.heap = T52.heap) A_b5 ⟨by decide, by decide⟩ (v := (.int (nar .byte (((p2.toUInt32 >>> ((24 : Int32) &&& 31).toUInt32).toInt32).toInt8.toInt32)))) (by rw [(by decide : (3 : Int32).toNatClampNeg = 3)]; exact (own_rg (by decide)).trans (hus 3 (by decide))) (hb hby at_98) ?_
  show ownFin _ _ _ _ _ (T52.setTop (mkF m 99 #[.val (.int p1), .val (.int p2), .val (.ref b1), .val (.ref b2), .val (.ref b4), .val (.ref b5)] [(.int (nar .byte (((p2.toUInt32 >>> ((24 : Int32) &&& 31).toUInt32).toInt32).toInt8.toInt32)))]))
  refine ownVia (fun _ k => XS.aloadN X52.here hx rfl (hb hby at_99) rfl rfl k) ?_
  show ownFin _ _ _ _ _ (T52.setTop (mkF m 100 #[.val (.int p1), .val (.int p2), .val (.ref b1), .val (.ref b2), .val (.ref b4), .val (.ref b5)] [(.ref b1), (.int (nar .byte (((p2.toUInt32 >>> ((24 : Int32) &&& 31).toUInt32).toInt32).toInt8.toInt32)))]))
  refine ownVia (fun _ k => XS.iconst X52.here hx rfl (hb hby at_100) k) ?_
  show ownFin _ _ _ _ _ (T52.setTop (mkF m 101 #[.val (.int p1), .val (.int p2), .val (.ref b1), .val (.ref b2), .val (.ref b4), .val (.ref b5)] [(.int (3 : Int32)), (.ref b1), (.int (nar .byte (((p2.toUInt32 >>> ((24 : Int32) &&& 31).toUInt32).toInt32).toInt8.toInt32)))]))
  refine ownBaload X52 hx hZ (rfl : T52.heap = T52.heap) A_b1 ⟨by decide, by decide⟩ (v := (.int (nar .byte (((p2.toUInt32 >>> ((24 : Int32) &&& 31).toUInt32).toInt32).toInt8.toInt32)))) rfl (hb hby at_101) ?_
  show ownFin _ _ _ _ _ (T52.setTop (mkF m 102 #[.val (.int p1), .val (.int p2), .val (.ref b1), .val (.ref b2), .val (.ref b4), .val (.ref b5)] [(.int (nar .byte (((p2.toUInt32 >>> ((24 : Int32) &&& 31).toUInt32).toInt32).toInt8.toInt32))), (.int (nar .byte (((p2.toUInt32 >>> ((24 : Int32) &&& 31).toUInt32).toInt32).toInt8.toInt32)))]))
  refine ownVia (fun _ k => XS.icmpNo X52.here hx rfl (hb hby at_102) rfl (teq rfl).2 k) ?_
  show ownFin _ _ _ _ _ (T52.setTop (mkF m 105 #[.val (.int p1), .val (.int p2), .val (.ref b1), .val (.ref b2), .val (.ref b4), .val (.ref b5)] []))
  refine ownVia (fun _ k => XS.iconst X52.here hx rfl (hb hby at_105) k) ?_
  show ownFin _ _ _ _ _ (T52.setTop (mkF m 106 #[.val (.int p1), .val (.int p2), .val (.ref b1), .val (.ref b2), .val (.ref b4), .val (.ref b5)] [(.int (1 : Int32))]))
  refine ownVia (fun _ k => XS.goto X52.here hx rfl (pc0 := 106) (pc' := 110) rfl (hb hby at_106) (by decide) (by decide) k) ?_
  show ownFin _ _ _ _ _ (T52.setTop (mkF m 110 #[.val (.int p1), .val (.int p2), .val (.ref b1), .val (.ref b2), .val (.ref b4), .val (.ref b5)] [(.int (1 : Int32))]))
  refine ownRetZ X52 hx hlk hret (hb hby at_110) (by decide) (by decide) (Or.inr rfl) ?_
  show (Q_own_law Z p1 p2 h0 n0 ) (some (.int (1 : Int32))) T52.heap _
  exact ⟨rfl, N52⟩
set_option maxRecDepth 65536 in
set_option maxHeartbeats 40000000 in
theorem own_comes {Post : Tables → Env → Array Value → State → Outcome → State → Prop} (hpost : ∀ tb e args s v u, (limb_1_1.after args s (.returned v) u = true ∧ limb_1_2.after args s (.returned v) u = true ∧ True) → FrameEnd s (.returned v) u (Jvm.fieldLocs frame_1_writes args s ++ Jvm.arrayLocs frame_1_arrays args s ++ Jvm.staticLocs frame_1_statics s) 24 128 → Post tb e args s (.returned v) u) :
    ArmFor flags0 classFile x code maxLocals ret World_1 tables_1 room_1 Calls_1 rest_1 Pre_1 Post := by
  intro l hfl _ _ p e ha hc hk s m args below hf hA hF happ hP
  obtain ⟨hcalls, hrest, hpre⟩ := hP
  obtain ⟨-, -, -, hnamed, -, -, -, hat⟩ := (Spec.applies_iff hf).mp happ
  obtain ⟨hg, hn⟩ := and_e (Cond.before_iff.mp (show (Jvm.Cond.and given_1 narrow_1).before args s = true from hpre))
  obtain ⟨hcount, hg0⟩ := and_e hg
  obtain ⟨w0, w1, rfl⟩ : ∃ w0 w1 : Value, args = #[w0, w1] := by
    have hs : args.size = 2 := by simpa [Cond.value, given_1] using hcount
    obtain ⟨L⟩ := args
    match L, hs with
    | [w0, w1], _ => exact ⟨w0, w1, rfl⟩
  have hw := fun d (hd : d ∈ tables_1) => atoms_spec (ws := Jvm.Cond.code x code maxLocals ret :: tables_1) hat d (List.mem_cons_of_mem _ hd)
  have hfit : Fit s := fun {y c} hc i hi => by
    obtain ⟨ha, rfl⟩ := Array.getElem?_eq_some_iff.mp hc
    have q := List.all_eq_true.mp ((Array.all_eq_true_iff_forall_mem.mp hF) _ (Array.getElem_mem ha)) i (List.mem_range.mpr hi)
    simpa [Array.getElem?_eq_getElem hi] using q
  obtain ⟨hq0, hg1⟩ := and_e hg0
  obtain ⟨i0, ei0⟩ := is_v hq0
  obtain rfl : w0 = (.int i0) := Option.some.inj ei0
  obtain ⟨i1, ei1⟩ := is_v hg1
  obtain rfl : w1 = (.int i1) := Option.some.inj ei1
  obtain ⟨n, o, h1, h2, h3, _, L, rfl, ⟨rfl, N⟩, hq⟩ := own_law l s _ hw tables_1 i0 i1 s.heap s.heap.size  (Nat.le_refl _)  p e ha hc hk s m _ below hf ((Spec.applies_iff_loose hf).mp happ).1 ⟨rfl, State.Warmed39.refl s, rfl⟩ trivial
  refine ⟨n, _, h1, h2, h3, hpost _ _ _ _ _ _ ⟨Cond.after_iff.mpr rfl, Cond.after_iff.mpr (eq_i res_at (Term.int_eval (1)) rfl), trivial⟩ ⟨hq.1, hq.2.1, (hq.2.2.sift fun y hy => Or.inr (N y hy)).mono (by decide) (by decide)⟩⟩
theorem main_1_1 : Claimed_1_1 := own_comes fun _ _ _ _ _ _ h hF => ⟨h.1, hF⟩
theorem main_1_2 : Claimed_1_2 := own_comes fun _ _ _ _ _ _ h hF => ⟨h.2.1, hF⟩
end Jvm.Pilot.@@N@@
namespace Jvm.Pilot.@@N@@
open Jvm Jvm.ClassFile Sem Op Lib Jvm.Free Jvm.Stand Jvm.Pilot.@@N@@.Jvm.D
/-! MADE BY PROGRAM (witnessworld.py) out of the Statement's table words and the real class files: 12 classes; the members and pool entries that the words name. The judged class is class 1, her method 1. -/
namespace start1
open Jvm.ClassFile
def u (s : String) : CpInfo := .utf8 (stringToUtf16 s)
/-- a pool by its gaps: so many unusable entries, then the entry; so many at the end -/
def gap : Nat → List CpInfo → List CpInfo
  | 0, r => r
  | n + 1, r => .unusable :: gap n r
def poolList (es : List (Nat × CpInfo)) (last : Nat) : List CpInfo := es.foldr (fun e r => gap e.1 (e.2 :: r)) (gap last [])
def pool (es : List (Nat × CpInfo)) (last : Nat) : Array CpInfo := ⟨poolList es last⟩
def fileOf (pool : Array CpInfo) (this : Nat) (attrs : Array Attribute := #[]) (ms : Array MethodInfo := #[]) (fl : Nat := 33) (sup : Nat := 0) (ifs : Array Nat := #[]) (fds : Array FieldInfo := #[]) : ClassFile where
  minorVersion := 0
  majorVersion := 65
  constantPool := pool
  accessFlags := fl
  thisClass := this
  superClass := sup
  interfaces := ifs
  fields := fds
  methods := ms
  attributes := attrs
def plain (name : String) (sup : Option ClassId) : Class where
  name := name
  kind := .ordinary
  loader := none
  accessFlags := 33
  super := sup
  interfaces := #[]
  cf := none
  fields := #[]
  methods := #[]
  instanceTypes := #[]
  staticTypes := #[]
  resolved := #[]
  callSites := []
  init := .initialized
  statics := none
  mirror := none

def pool0 : Array CpInfo := pool [(5, u "<init>"), (0, u "()V"), (1, .class_ 10), (1, u "java/lang/Object"), (85, u "clone"), (0, u "()Ljava/lang/Object;")] 26

def k0c0 : Code := { maxStack := 0, maxLocals := 1, code := object_method_1_code, exceptionTable := #[], attributes := #[] }
def k0m0 : Method := { name := "<init>", desc := "()V", sig := { parameters := [], returnType := none }, accessFlags := 1, code := some k0c0 }
def k0m1 : Method := { name := "clone", desc := "()Ljava/lang/Object;", sig := { parameters := [], returnType := some (.object "java/lang/Object") }, accessFlags := 260, code := none }
/-- java/lang/Object -/
def k0 : Class := { plain "java/lang/Object" none with
  accessFlags := 33
  interfaces := #[]
  cf := some (fileOf pool0 8 #[] #[{ accessFlags := 1, nameIndex := 5, descriptorIndex := 6, attributes := #[] }, { accessFlags := 260, nameIndex := 96, descriptorIndex := 97, attributes := #[] }] 33 0 #[] #[])
  fields := #[]
  methods := #[k0m0, k0m1]
  instanceTypes := #[]
  staticTypes := #[]
  resolved := Array.replicate 124 none
  statics := none }

def pool1 : Array CpInfo := pool [(2, .class_ 4), (1, u "java/lang/Object"), (0, u "<init>"), (0, u "()V"), (0, .class_ 8), (0, u "com/example/lacuna/lacuna/keys/MulticodecKey"), (0, .methodref 7 10), (0, .nameAndType 5 11), (0, u "(II)V"), (0, .methodref 7 13), (0, .nameAndType 14 15), (0, u "value"), (0, u "([B)[B"), (0, .methodref 7 17), (0, .nameAndType 18 15), (0, u "key"), (0, .class_ 20), (0, u "com/example/lacuna/lacuna/keys/MulticodecKeyKeyPinLaw"), (2, u "law"), (0, u "(II)Z")] 5

def k1m0 : Method := { name := "<init>", desc := "()V", sig := { parameters := [], returnType := none }, accessFlags := 1, code := none }
def k1c1 : Code := { maxStack := 4, maxLocals := 6, code := code, exceptionTable := #[], attributes := #[] }
def k1m1 : Method := { name := "law", desc := "(II)Z", sig := { parameters := [.int, .int], returnType := some .boolean }, accessFlags := 9, code := some k1c1 }
/-- com/example/lacuna/lacuna/keys/MulticodecKeyKeyPinLaw -/
def k1 : Class := { plain "com/example/lacuna/lacuna/keys/MulticodecKeyKeyPinLaw" (some 0) with
  accessFlags := 49
  interfaces := #[]
  cf := some (fileOf pool1 19 #[] #[{ accessFlags := 1, nameIndex := 5, descriptorIndex := 6, attributes := #[] }, { accessFlags := 9, nameIndex := 23, descriptorIndex := 24, attributes := #[] }] 49 2 #[] #[])
  fields := #[]
  methods := #[k1m0, k1m1]
  instanceTypes := #[]
  staticTypes := #[]
  resolved := Array.replicate 30 none
  statics := none }

def pool2 : Array CpInfo := pool [(1, .methodref 2 3), (0, .class_ 4), (0, .nameAndType 5 6), (0, u "java/lang/Object"), (0, u "<init>"), (0, u "()V"), (0, .methodref 8 9), (0, .class_ 10), (0, .nameAndType 11 12), (0, u "com/example/lacuna/lacuna/keys/MulticodecKey"), (0, u "unsignedVarint"), (0, u "(I)[B"), (0, .fieldref 8 14), (0, .nameAndType 15 16), (0, u "header"), (0, u "[B"), (0, .fieldref 8 18), (0, .nameAndType 19 20), (0, u "keyLength"), (0, u "I"), (1, .class_ 24), (1, u "java/util/Arrays"), (2, .methodref 22 28), (0, .nameAndType 29 30), (0, u "copyOfRange"), (0, u "([BII)[B"), (0, .methodref 22 32), (0, .nameAndType 33 34), (0, u "copyOf"), (0, u "([BI)[B"), (0, .methodref 36 37), (0, .class_ 38), (0, .nameAndType 39 40), (0, u "java/lang/System"), (0, u "arraycopy"), (0, u "(Ljava/lang/Object;ILjava/lang/Object;II)V"), (41, u "(II)V"), (7, u "key"), (0, u "([B)[B"), (0, u "value")] 3

def k2c0 : Code := { maxStack := 2, maxLocals := 3, code := prog_30_method_1_code, exceptionTable := #[], attributes := #[] }
def k2m0 : Method := { name := "<init>", desc := "(II)V", sig := { parameters := [.int, .int], returnType := none }, accessFlags := 0, code := some k2c0 }
def k2c1 : Code := { maxStack := 3, maxLocals := 2, code := prog_30_method_5_code, exceptionTable := #[], attributes := #[] }
def k2m1 : Method := { name := "key", desc := "([B)[B", sig := { parameters := [(.array .byte)], returnType := some (.array .byte) }, accessFlags := 0, code := some k2c1 }
def k2c2 : Code := { maxStack := 5, maxLocals := 3, code := prog_30_method_6_code, exceptionTable := #[], attributes := #[] }
def k2m2 : Method := { name := "value", desc := "([B)[B", sig := { parameters := [(.array .byte)], returnType := some (.array .byte) }, accessFlags := 0, code := some k2c2 }
def k2c3 : Code := { maxStack := 4, maxLocals := 4, code := prog_30_method_9_code, exceptionTable := #[], attributes := #[] }
def k2m3 : Method := { name := "unsignedVarint", desc := "(I)[B", sig := { parameters := [.int], returnType := some (.array .byte) }, accessFlags := 10, code := some k2c3 }
/-- com/example/lacuna/lacuna/keys/MulticodecKey -/
def k2 : Class := { plain "com/example/lacuna/lacuna/keys/MulticodecKey" (some 0) with
  accessFlags := 48
  interfaces := #[]
  cf := some (fileOf pool2 8 #[] #[{ accessFlags := 0, nameIndex := 5, descriptorIndex := 82, attributes := #[] }, { accessFlags := 0, nameIndex := 90, descriptorIndex := 91, attributes := #[] }, { accessFlags := 0, nameIndex := 92, descriptorIndex := 91, attributes := #[] }, { accessFlags := 10, nameIndex := 11, descriptorIndex := 12, attributes := #[] }] 48 2 #[] #[{ accessFlags := 18, nameIndex := 15, descriptorIndex := 16, attributes := #[] }, { accessFlags := 18, nameIndex := 19, descriptorIndex := 20, attributes := #[] }])
  fields := #[{ name := "header", type := (.array .byte), accessFlags := 18, slot := 0, constantValue := 0 }, { name := "keyLength", type := .int, accessFlags := 18, slot := 1, constantValue := 0 }]
  methods := #[k2m0, k2m1, k2m2, k2m3]
  instanceTypes := #[(.array .byte), .int]
  staticTypes := #[]
  resolved := Array.replicate 96 none
  statics := none }

def pool3 : Array CpInfo := pool [(2, .class_ 4), (1, u "java/lang/Object"), (0, u "<init>"), (0, u "()V"), (7, .class_ 16), (1, u "java/util/Arrays"), (57, .class_ 76), (1, u "java/util/Arrays$NaturalOrder"), (32, u "()Ljava/lang/Object;"), (3, .class_ 115), (1, u "java/util/Arrays$LegacyMergeSort"), (1, u "Z"), (10, .nameAndType 129 109), (0, u "clone"), (9, u "copyOfRange"), (10, .methodref 151 152), (0, .class_ 153), (0, .nameAndType 154 155), (0, u "java/lang/System"), (0, u "arraycopy"), (0, u "(Ljava/lang/Object;ILjava/lang/Object;II)V"), (146, u "copyOf"), (1, .methodref 305 306), (0, .class_ 307), (0, .nameAndType 308 309), (0, u "java/lang/Math"), (0, u "min"), (0, u "(II)I"), (0, .methodref 311 128), (0, .class_ 312), (0, u "[B"), (26, .methodref 14 340), (0, .nameAndType 341 342), (0, u "copyOfRangeByte"), (0, u "([BII)[B"), (0, .methodref 14 344), (0, .nameAndType 345 346), (0, u "checkLength"), (0, u "(II)V"), (28, .class_ 376), (0, u "java/util/Arrays$ArrayList"), (68, u "$assertionsDisabled"), (269, u "MIN_ARRAY_SORT_GRAN"), (0, u "I"), (2, u "INSERTIONSORT_THRESHOLD"), (149, u "([BI)[B"), (105, .class_ 976), (0, u "java/util/Arrays$ArrayItr")] 52

def k3m0 : Method := { name := "<init>", desc := "()V", sig := { parameters := [], returnType := none }, accessFlags := 2, code := none }
def k3c1 : Code := { maxStack := 6, maxLocals := 3, code := jdk_65_method_121_code, exceptionTable := #[], attributes := #[] }
def k3m1 : Method := { name := "copyOf", desc := "([BI)[B", sig := { parameters := [(.array .byte), .int], returnType := some (.array .byte) }, accessFlags := 9, code := some k3c1 }
def k3c2 : Code := { maxStack := 4, maxLocals := 2, code := jdk_65_method_131_code, exceptionTable := #[], attributes := #[] }
def k3m2 : Method := { name := "checkLength", desc := "(II)V", sig := { parameters := [.int, .int], returnType := none }, accessFlags := 10, code := some k3c2 }
def k3c3 : Code := { maxStack := 3, maxLocals := 3, code := jdk_65_method_132_code, exceptionTable := #[], attributes := #[] }
def k3m3 : Method := { name := "copyOfRange", desc := "([BII)[B", sig := { parameters := [(.array .byte), .int, .int], returnType := some (.array .byte) }, accessFlags := 9, code := some k3c3 }
def k3c4 : Code := { maxStack := 6, maxLocals := 5, code := jdk_65_method_133_code, exceptionTable := #[], attributes := #[] }
def k3m4 : Method := { name := "copyOfRangeByte", desc := "([BII)[B", sig := { parameters := [(.array .byte), .int, .int], returnType := some (.array .byte) }, accessFlags := 10, code := some k3c4 }
/-- java/util/Arrays -/
def k3 : Class := { plain "java/util/Arrays" (some 0) with
  accessFlags := 49
  interfaces := #[]
  cf := some (fileOf pool3 14 #[.nestMembers #[975, 375, 113, 74]] #[{ accessFlags := 2, nameIndex := 5, descriptorIndex := 6, attributes := #[] }, { accessFlags := 9, nameIndex := 302, descriptorIndex := 869, attributes := #[] }, { accessFlags := 10, nameIndex := 345, descriptorIndex := 346, attributes := #[] }, { accessFlags := 9, nameIndex := 139, descriptorIndex := 342, attributes := #[] }, { accessFlags := 10, nameIndex := 341, descriptorIndex := 342, attributes := #[] }] 49 2 #[] #[{ accessFlags := 26, nameIndex := 715, descriptorIndex := 716, attributes := #[] }, { accessFlags := 26, nameIndex := 719, descriptorIndex := 716, attributes := #[] }, { accessFlags := 4120, nameIndex := 445, descriptorIndex := 117, attributes := #[] }])
  fields := #[{ name := "MIN_ARRAY_SORT_GRAN", type := .int, accessFlags := 26, slot := 0, constantValue := 0 }, { name := "INSERTIONSORT_THRESHOLD", type := .int, accessFlags := 26, slot := 1, constantValue := 0 }, { name := "$assertionsDisabled", type := .boolean, accessFlags := 4120, slot := 2, constantValue := 0 }]
  methods := #[k3m0, k3m1, k3m2, k3m3, k3m4]
  instanceTypes := #[]
  staticTypes := #[.int, .int, .boolean]
  resolved := Array.replicate 1029 none
  statics := none }

def pool4 : Array CpInfo := pool [(1, .class_ 2), (0, u "java/lang/Math"), (1, .class_ 6), (1, u "java/lang/Object"), (0, u "<init>"), (0, u "()V"), (89, .class_ 100), (1, u "java/lang/Math$RandomNumberGeneratorHolder"), (71, u "negativeZeroFloatBits"), (0, u "J"), (2, u "negativeZeroDoubleBits"), (24, u "min"), (43, u "$assertionsDisabled"), (0, u "Z"), (88, u "(II)I"), (2, u "twoToTheDoubleScaleDown"), (0, u "D"), (4, u "twoToTheDoubleScaleUp"), (9, u "E"), (3, u "PI"), (2, u "TAU"), (2, u "DEGREES_TO_RADIANS"), (0, u "RADIANS_TO_DEGREES")] 94

def k4m0 : Method := { name := "<init>", desc := "()V", sig := { parameters := [], returnType := none }, accessFlags := 2, code := none }
def k4c1 : Code := { maxStack := 2, maxLocals := 2, code := jdk_29_method_69_code, exceptionTable := #[], attributes := #[] }
def k4m1 : Method := { name := "min", desc := "(II)I", sig := { parameters := [.int, .int], returnType := some .int }, accessFlags := 9, code := some k4c1 }
/-- java/lang/Math -/
def k4 : Class := { plain "java/lang/Math" (some 0) with
  accessFlags := 49
  interfaces := #[]
  cf := some (fileOf pool4 1 #[.nestMembers #[98]] #[{ accessFlags := 2, nameIndex := 7, descriptorIndex := 8, attributes := #[] }, { accessFlags := 9, nameIndex := 201, descriptorIndex := 335, attributes := #[] }] 49 4 #[] #[{ accessFlags := 25, nameIndex := 354, descriptorIndex := 339, attributes := #[] }, { accessFlags := 25, nameIndex := 358, descriptorIndex := 339, attributes := #[] }, { accessFlags := 25, nameIndex := 361, descriptorIndex := 339, attributes := #[] }, { accessFlags := 26, nameIndex := 364, descriptorIndex := 339, attributes := #[] }, { accessFlags := 26, nameIndex := 365, descriptorIndex := 339, attributes := #[] }, { accessFlags := 26, nameIndex := 172, descriptorIndex := 173, attributes := #[] }, { accessFlags := 26, nameIndex := 176, descriptorIndex := 173, attributes := #[] }, { accessFlags := 8, nameIndex := 344, descriptorIndex := 339, attributes := #[] }, { accessFlags := 8, nameIndex := 338, descriptorIndex := 339, attributes := #[] }, { accessFlags := 4120, nameIndex := 245, descriptorIndex := 246, attributes := #[] }])
  fields := #[{ name := "E", type := .double, accessFlags := 25, slot := 0, constantValue := 0 }, { name := "PI", type := .double, accessFlags := 25, slot := 1, constantValue := 0 }, { name := "TAU", type := .double, accessFlags := 25, slot := 2, constantValue := 0 }, { name := "DEGREES_TO_RADIANS", type := .double, accessFlags := 26, slot := 3, constantValue := 0 }, { name := "RADIANS_TO_DEGREES", type := .double, accessFlags := 26, slot := 4, constantValue := 0 }, { name := "negativeZeroFloatBits", type := .long, accessFlags := 26, slot := 5, constantValue := 0 }, { name := "negativeZeroDoubleBits", type := .long, accessFlags := 26, slot := 6, constantValue := 0 }, { name := "twoToTheDoubleScaleUp", type := .double, accessFlags := 8, slot := 7, constantValue := 0 }, { name := "twoToTheDoubleScaleDown", type := .double, accessFlags := 8, slot := 8, constantValue := 0 }, { name := "$assertionsDisabled", type := .boolean, accessFlags := 4120, slot := 9, constantValue := 0 }]
  methods := #[k4m0, k4m1]
  instanceTypes := #[]
  staticTypes := #[.double, .double, .double, .double, .double, .long, .long, .double, .double, .boolean]
  resolved := Array.replicate 460 none
  statics := none }

def pool5 : Array CpInfo := pool [(2, .class_ 4), (1, u "java/lang/Object"), (0, u "<init>"), (0, u "()V"), (1, .class_ 10), (1, u "java/lang/System"), (0, u "allowSecurityManager"), (0, u "I"), (16, u "cons"), (0, u "Ljava/io/Console;"), (77, .class_ 110), (1, u "java/lang/System$CallersHolder"), (43, u "initialErrStream"), (0, u "Ljava/io/PrintStream;"), (19, u "security"), (0, u "Ljava/lang/SecurityManager;"), (31, .class_ 209), (0, u "java/lang/System$1"), (7, u "props"), (0, u "Ljava/util/Properties;"), (2, u "lineSeparator"), (0, u "Ljava/lang/String;"), (96, .class_ 321), (1, u "java/lang/System$LoggerFinder"), (5, .class_ 328), (0, u "java/lang/System$Logger"), (67, u "err"), (2, u "out"), (91, u "notSupportedJnuEncoding"), (15, u "in"), (17, u "initialIn"), (0, u "Ljava/io/InputStream;"), (35, u "bootLayer"), (0, u "Ljava/lang/ModuleLayer;"), (99, .class_ 664), (0, u "java/lang/System$2"), (9, u "NEVER"), (2, u "MAYBE"), (49, u "arraycopy"), (0, u "(Ljava/lang/Object;ILjava/lang/Object;II)V"), (72, .class_ 802), (0, u "java/lang/System$Logger$Level")] 31

def k5m0 : Method := { name := "<init>", desc := "()V", sig := { parameters := [], returnType := none }, accessFlags := 2, code := none }
def k5m1 : Method := { name := "arraycopy", desc := "(Ljava/lang/Object;ILjava/lang/Object;II)V", sig := { parameters := [(.object "java/lang/Object"), .int, (.object "java/lang/Object"), .int, .int], returnType := none }, accessFlags := 265, code := none }
/-- java/lang/System -/
def k5 : Class := { plain "java/lang/System" (some 0) with
  accessFlags := 49
  interfaces := #[]
  cf := some (fileOf pool5 8 #[.nestMembers #[319, 327, 801, 108, 663, 208]] #[{ accessFlags := 2, nameIndex := 5, descriptorIndex := 6, attributes := #[] }, { accessFlags := 265, nameIndex := 727, descriptorIndex := 728, attributes := #[] }] 49 2 #[] #[{ accessFlags := 25, nameIndex := 507, descriptorIndex := 526, attributes := #[] }, { accessFlags := 25, nameIndex := 399, descriptorIndex := 155, attributes := #[] }, { accessFlags := 25, nameIndex := 396, descriptorIndex := 155, attributes := #[] }, { accessFlags := 10, nameIndex := 525, descriptorIndex := 526, attributes := #[] }, { accessFlags := 26, nameIndex := 674, descriptorIndex := 12, attributes := #[] }, { accessFlags := 26, nameIndex := 677, descriptorIndex := 12, attributes := #[] }, { accessFlags := 10, nameIndex := 11, descriptorIndex := 12, attributes := #[] }, { accessFlags := 74, nameIndex := 175, descriptorIndex := 176, attributes := #[] }, { accessFlags := 10, nameIndex := 491, descriptorIndex := 222, attributes := #[] }, { accessFlags := 74, nameIndex := 29, descriptorIndex := 30, attributes := #[] }, { accessFlags := 74, nameIndex := 154, descriptorIndex := 155, attributes := #[] }, { accessFlags := 10, nameIndex := 217, descriptorIndex := 218, attributes := #[] }, { accessFlags := 10, nameIndex := 221, descriptorIndex := 222, attributes := #[] }, { accessFlags := 8, nameIndex := 562, descriptorIndex := 563, attributes := #[] }])
  fields := #[{ name := "in", type := (.object "java/io/InputStream"), accessFlags := 25, slot := 0, constantValue := 0 }, { name := "out", type := (.object "java/io/PrintStream"), accessFlags := 25, slot := 1, constantValue := 0 }, { name := "err", type := (.object "java/io/PrintStream"), accessFlags := 25, slot := 2, constantValue := 0 }, { name := "initialIn", type := (.object "java/io/InputStream"), accessFlags := 10, slot := 3, constantValue := 0 }, { name := "NEVER", type := .int, accessFlags := 26, slot := 4, constantValue := 0 }, { name := "MAYBE", type := .int, accessFlags := 26, slot := 5, constantValue := 0 }, { name := "allowSecurityManager", type := .int, accessFlags := 10, slot := 6, constantValue := 0 }, { name := "security", type := (.object "java/lang/SecurityManager"), accessFlags := 74, slot := 7, constantValue := 0 }, { name := "notSupportedJnuEncoding", type := (.object "java/lang/String"), accessFlags := 10, slot := 8, constantValue := 0 }, { name := "cons", type := (.object "java/io/Console"), accessFlags := 74, slot := 9, constantValue := 0 }, { name := "initialErrStream", type := (.object "java/io/PrintStream"), accessFlags := 74, slot := 10, constantValue := 0 }, { name := "props", type := (.object "java/util/Properties"), accessFlags := 10, slot := 11, constantValue := 0 }, { name := "lineSeparator", type := (.object "java/lang/String"), accessFlags := 10, slot := 12, constantValue := 0 }, { name := "bootLayer", type := (.object "java/lang/ModuleLayer"), accessFlags := 8, slot := 13, constantValue := 0 }]
  methods := #[k5m0, k5m1]
  instanceTypes := #[]
  staticTypes := #[(.object "java/io/InputStream"), (.object "java/io/PrintStream"), (.object "java/io/PrintStream"), (.object "java/io/InputStream"), .int, .int, .int, (.object "java/lang/SecurityManager"), (.object "java/lang/String"), (.object "java/io/Console"), (.object "java/io/PrintStream"), (.object "java/util/Properties"), (.object "java/lang/String"), (.object "java/lang/ModuleLayer")]
  resolved := Array.replicate 834 none
  statics := none }

def pool6 : Array CpInfo := pool [(1, .class_ 2), (0, u "java/lang/Cloneable"), (0, .class_ 4), (0, u "java/lang/Object")] 2

/-- java/lang/Cloneable -/
def k6 : Class := { plain "java/lang/Cloneable" (some 0) with
  accessFlags := 1537
  interfaces := #[]
  cf := some (fileOf pool6 1 #[] #[] 1537 3 #[] #[])
  fields := #[]
  methods := #[]
  instanceTypes := #[]
  staticTypes := #[]
  resolved := Array.replicate 7 none
  statics := none }

def pool7 : Array CpInfo := pool [(1, u "java/io/Serializable"), (0, .class_ 1), (0, u "java/lang/Object"), (0, .class_ 3)] 3

/-- java/io/Serializable -/
def k7 : Class := { plain "java/io/Serializable" (some 0) with
  accessFlags := 1537
  interfaces := #[]
  cf := some (fileOf pool7 2 #[] #[] 1537 4 #[] #[])
  fields := #[]
  methods := #[]
  instanceTypes := #[]
  staticTypes := #[]
  resolved := Array.replicate 8 none
  statics := none }

/-- the primitive byte -/
def k8 : Class := { plain "byte" none with kind := .primitive 'B', accessFlags := 0x411 }
/-- [B -/
def k9 : Class := { plain "[B" (some 0) with kind := .array 8 .byte, interfaces := #[6, 7], accessFlags := 1041 }

/-- the primitive int -/
def k10 : Class := { plain "int" none with kind := .primitive 'I', accessFlags := 0x411 }
/-- [I -/
def k11 : Class := { plain "[I" (some 0) with kind := .array 10 .int, interfaces := #[6, 7], accessFlags := 1041 }

def heap : Heap := #[]
def classes : Array Class := #[k0, k1, k2, k3, k4, k5, k6, k7, k8, k9, k10, k11]
def interned : List (Array UInt16 × Addr) := []
def slotsUsed : Nat := 0
def theMethod : MethodId := ⟨1, 1⟩
def args0 : Array Value := #[.int 5, .int 3]
def aboutOver (below : List Frame) : State where
  vm := { classes := classes, interned := interned.toArray }
  heap := heap
  slotsUsed := slotsUsed
  threads := #[{ frames := .invoking theMethod args0 :: below }]
def below0 : List Frame := [.native { method := ⟨0, 0⟩, args := #[] }]
def about1 : State := aboutOver below0
def p0 : Program := .bare "" "" ""
def e0 : Env := launch0.env 0 0 0
theorem w_frames : about1.frames = Frame.invoking theMethod args0 :: below0 := rfl
set_option maxRecDepth 65536 in
theorem w_args : argsFit about1.vm theMethod args0 = true := by decide +kernel
set_option maxRecDepth 65536 in
theorem w_heap : heapFits about1 = true := by decide +kernel
set_option maxRecDepth 65536 in
theorem w_runnable : about1.curStatus? = some .runnable := by decide +kernel
set_option maxRecDepth 65536 in
theorem w_alone : about1.alone = true := by decide +kernel
set_option maxRecDepth 65536 in
theorem w_named : about1.methodNamed? x = some theMethod := by decide +kernel
set_option maxRecDepth 65536 in
theorem w_hears : about1.hears theMethod below0 = true := by decide +kernel
set_option maxRecDepth 65536 in
theorem w_ripe : about1.ripe theMethod args0 below0 = true := by decide +kernel
theorem w_running : about1.status = .running := rfl
set_option maxRecDepth 65536 in
theorem w_room : about1.hasRoom e0.platform room_1 = true :=
  launch0.hasRoom_least _ room_1 (by decide +kernel) (by decide +kernel) (by decide +kernel) (by decide +kernel) (by decide +kernel) (by decide +kernel)
theorem allAtoms_all (ts : List Jvm.Cond) (a : Array Jvm.Value) (st : Jvm.State) : (allAtoms ts).before a st = ts.all (fun c => c.before a st) := by
  induction ts with
  | nil => rfl
  | cons c t ih =>
    show (Jvm.Cond.and c (allAtoms t)).before a st = _
    rw [Jvm.Cond.before_and, ih, List.all_cons]
def words1 : List Jvm.Cond := Jvm.Cond.code x code maxLocals ret :: tables_1
/-- a 'code' word, met by the world's own term for the bytes: nothing is compared byte by byte -/
theorem code_word {y : MethodName} {bytes : ByteArray} {mx : Nat} {rt : Option FieldType} {a : Array Value} {s : State} {m : MethodId} {meth : Method} {c : Code} (h1 : s.methodNamed? y = some m) (h2 : s.vm.method? m = some meth) (h3 : meth.code = some c) (h4 : c.code = bytes)
    (h5 : (c.maxLocals == mx && c.exceptionTable.isEmpty && decide (c.maxStack ≤ mostOperands) && decide (meth.sig.returnType = rt) && !meth.locks && decide (parseMethodDescriptor y.desc = some meth.sig)) = true) : (Jvm.Cond.code y bytes mx rt).before a s = true := by
  simp only [Bool.and_eq_true, beq_iff_eq, Bool.not_eq_true', decide_eq_true_eq] at h5
  obtain ⟨⟨⟨⟨⟨g1, g2⟩, g3⟩, g4⟩, g5⟩, g6⟩ := h5
  simp [Cond.before, Cond.holds, Cond.value, h1, h2, h3, h4, g1, g2, g3, g4, g5, g6]
def isCode : Jvm.Cond → Bool
  | .code _ _ _ _ => true
  | _ => false
theorem all_split {L : List Jvm.Cond} {P : Jvm.Cond → Bool} (h1 : L.all (fun c => isCode c || P c) = true) (h2 : ∀ c ∈ L.filter isCode, P c = true) : L.all P = true := by
  refine List.all_eq_true.mpr fun c hc => ?_
  have h := List.all_eq_true.mp h1 c hc
  rcases Bool.eq_false_or_eq_true (isCode c) with hi | hi
  · exact h2 c (List.mem_filter.mpr ⟨hc, hi⟩)
  · simpa [hi] using h
set_option maxRecDepth 65536 in
theorem w_c0 : (Jvm.Cond.code x code maxLocals ret).before args0 about1 = true := code_word (m := ⟨1, 1⟩) (meth := k1m1) (c := k1c1) (by decide +kernel) rfl rfl rfl (by decide +kernel)
set_option maxRecDepth 65536 in
theorem w_c1 : (Jvm.Cond.code ({ cls := "com/example/lacuna/lacuna/keys/MulticodecKey", name := "<init>", desc := "(II)V" } : Jvm.MethodName) prog_30_method_1_code (3 : Nat) (Option.none : Option Jvm.ClassFile.FieldType)).before args0 about1 = true := code_word (m := ⟨2, 0⟩) (meth := k2m0) (c := k2c0) (by decide +kernel) rfl rfl rfl (by decide +kernel)
set_option maxRecDepth 65536 in
theorem w_c2 : (Jvm.Cond.code ({ cls := "java/lang/Object", name := "<init>", desc := "()V" } : Jvm.MethodName) object_method_1_code (1 : Nat) (Option.none : Option Jvm.ClassFile.FieldType)).before args0 about1 = true := code_word (m := ⟨0, 0⟩) (meth := k0m0) (c := k0c0) (by decide +kernel) rfl rfl rfl (by decide +kernel)
set_option maxRecDepth 65536 in
theorem w_c3 : (Jvm.Cond.code ({ cls := "com/example/lacuna/lacuna/keys/MulticodecKey", name := "unsignedVarint", desc := "(I)[B" } : Jvm.MethodName) prog_30_method_9_code (4 : Nat) (Option.some (Jvm.ClassFile.FieldType.array Jvm.ClassFile.FieldType.byte))).before args0 about1 = true := code_word (m := ⟨2, 3⟩) (meth := k2m3) (c := k2c3) (by decide +kernel) rfl rfl rfl (by decide +kernel)
set_option maxRecDepth 65536 in
theorem w_c4 : (Jvm.Cond.code ({ cls := "java/util/Arrays", name := "copyOf", desc := "([BI)[B" } : Jvm.MethodName) jdk_65_method_121_code (3 : Nat) (Option.some (Jvm.ClassFile.FieldType.array Jvm.ClassFile.FieldType.byte))).before args0 about1 = true := code_word (m := ⟨3, 1⟩) (meth := k3m1) (c := k3c1) (by decide +kernel) rfl rfl rfl (by decide +kernel)
set_option maxRecDepth 65536 in
theorem w_c5 : (Jvm.Cond.code ({ cls := "java/lang/Math", name := "min", desc := "(II)I" } : Jvm.MethodName) jdk_29_method_69_code (2 : Nat) (Option.some Jvm.ClassFile.FieldType.int)).before args0 about1 = true := code_word (m := ⟨4, 1⟩) (meth := k4m1) (c := k4c1) (by decide +kernel) rfl rfl rfl (by decide +kernel)
set_option maxRecDepth 65536 in
theorem w_c6 : (Jvm.Cond.code ({ cls := "com/example/lacuna/lacuna/keys/MulticodecKey", name := "value", desc := "([B)[B" } : Jvm.MethodName) prog_30_method_6_code (3 : Nat) (Option.some (Jvm.ClassFile.FieldType.array Jvm.ClassFile.FieldType.byte))).before args0 about1 = true := code_word (m := ⟨2, 2⟩) (meth := k2m2) (c := k2c2) (by decide +kernel) rfl rfl rfl (by decide +kernel)
set_option maxRecDepth 65536 in
theorem w_c7 : (Jvm.Cond.code ({ cls := "com/example/lacuna/lacuna/keys/MulticodecKey", name := "key", desc := "([B)[B" } : Jvm.MethodName) prog_30_method_5_code (2 : Nat) (Option.some (Jvm.ClassFile.FieldType.array Jvm.ClassFile.FieldType.byte))).before args0 about1 = true := code_word (m := ⟨2, 1⟩) (meth := k2m1) (c := k2c1) (by decide +kernel) rfl rfl rfl (by decide +kernel)
set_option maxRecDepth 65536 in
theorem w_c8 : (Jvm.Cond.code ({ cls := "java/util/Arrays", name := "copyOfRange", desc := "([BII)[B" } : Jvm.MethodName) jdk_65_method_132_code (3 : Nat) (Option.some (Jvm.ClassFile.FieldType.array Jvm.ClassFile.FieldType.byte))).before args0 about1 = true := code_word (m := ⟨3, 3⟩) (meth := k3m3) (c := k3c3) (by decide +kernel) rfl rfl rfl (by decide +kernel)
set_option maxRecDepth 65536 in
theorem w_c9 : (Jvm.Cond.code ({ cls := "java/util/Arrays", name := "copyOfRangeByte", desc := "([BII)[B" } : Jvm.MethodName) jdk_65_method_133_code (5 : Nat) (Option.some (Jvm.ClassFile.FieldType.array Jvm.ClassFile.FieldType.byte))).before args0 about1 = true := code_word (m := ⟨3, 4⟩) (meth := k3m4) (c := k3c4) (by decide +kernel) rfl rfl rfl (by decide +kernel)
set_option maxRecDepth 65536 in
theorem w_c10 : (Jvm.Cond.code ({ cls := "java/util/Arrays", name := "checkLength", desc := "(II)V" } : Jvm.MethodName) jdk_65_method_131_code (2 : Nat) (Option.none : Option Jvm.ClassFile.FieldType)).before args0 about1 = true := code_word (m := ⟨3, 2⟩) (meth := k3m2) (c := k3c2) (by decide +kernel) rfl rfl rfl (by decide +kernel)
def codes1 : List Jvm.Cond := [Jvm.Cond.code x code maxLocals ret, Jvm.Cond.code ({ cls := "com/example/lacuna/lacuna/keys/MulticodecKey", name := "<init>", desc := "(II)V" } : Jvm.MethodName) prog_30_method_1_code (3 : Nat) (Option.none : Option Jvm.ClassFile.FieldType), Jvm.Cond.code ({ cls := "java/lang/Object", name := "<init>", desc := "()V" } : Jvm.MethodName) object_method_1_code (1 : Nat) (Option.none : Option Jvm.ClassFile.FieldType), Jvm.Cond.code ({ cls := "com/example/lacuna/lacuna/keys/MulticodecKey", name := "unsignedVarint", desc := "(I)[B" } : Jvm.MethodName) prog_30_method_9_code (4 : Nat) (Option.some (Jvm.ClassFile.FieldType.array Jvm.ClassFile.FieldType.byte)), Jvm.Cond.code ({ cls := "java/util/Arrays", name := "copyOf", desc := "([BI)[B" } : Jvm.MethodName) jdk_65_method_121_code (3 : Nat) (Option.some (Jvm.ClassFile.FieldType.array Jvm.ClassFile.FieldType.byte)), Jvm.Cond.code ({ cls := "java/lang/Math", name := "min", desc := "(II)I" } : Jvm.MethodName) jdk_29_method_69_code (2 : Nat) (Option.some Jvm.ClassFile.FieldType.int), Jvm.Cond.code ({ cls := "com/example/lacuna/lacuna/keys/MulticodecKey", name := "value", desc := "([B)[B" } : Jvm.MethodName) prog_30_method_6_code (3 : Nat) (Option.some (Jvm.ClassFile.FieldType.array Jvm.ClassFile.FieldType.byte)), Jvm.Cond.code ({ cls := "com/example/lacuna/lacuna/keys/MulticodecKey", name := "key", desc := "([B)[B" } : Jvm.MethodName) prog_30_method_5_code (2 : Nat) (Option.some (Jvm.ClassFile.FieldType.array Jvm.ClassFile.FieldType.byte)), Jvm.Cond.code ({ cls := "java/util/Arrays", name := "copyOfRange", desc := "([BII)[B" } : Jvm.MethodName) jdk_65_method_132_code (3 : Nat) (Option.some (Jvm.ClassFile.FieldType.array Jvm.ClassFile.FieldType.byte)), Jvm.Cond.code ({ cls := "java/util/Arrays", name := "copyOfRangeByte", desc := "([BII)[B" } : Jvm.MethodName) jdk_65_method_133_code (5 : Nat) (Option.some (Jvm.ClassFile.FieldType.array Jvm.ClassFile.FieldType.byte)), Jvm.Cond.code ({ cls := "java/util/Arrays", name := "checkLength", desc := "(II)V" } : Jvm.MethodName) jdk_65_method_131_code (2 : Nat) (Option.none : Option Jvm.ClassFile.FieldType)]
set_option maxRecDepth 65536 in
theorem codes_eq : words1.filter isCode = codes1 := rfl
theorem w_codes : ∀ c ∈ words1.filter isCode, c.before args0 about1 = true := by
  rw [codes_eq]
  intro c hc
  simp only [codes1, List.mem_cons, List.not_mem_nil, or_false] at hc
  rcases hc with rfl | rfl | rfl | rfl | rfl | rfl | rfl | rfl | rfl | rfl | rfl
  · exact w_c0
  · exact w_c1
  · exact w_c2
  · exact w_c3
  · exact w_c4
  · exact w_c5
  · exact w_c6
  · exact w_c7
  · exact w_c8
  · exact w_c9
  · exact w_c10
set_option maxRecDepth 65536 in
theorem w_t1 : (words1.take 24).all (fun c => isCode c || c.before args0 about1) = true := by decide +kernel
set_option maxRecDepth 65536 in
theorem w_t2 : ((words1.drop 24).take 24).all (fun c => isCode c || c.before args0 about1) = true := by decide +kernel
set_option maxRecDepth 65536 in
theorem w_t3 : ((words1.drop 24).drop 24).all (fun c => isCode c || c.before args0 about1) = true := by decide +kernel
theorem w_tables : (allAtoms (Jvm.Cond.code x code maxLocals ret :: tables_1)).before args0 about1 = true := by
  rw [allAtoms_all]
  show words1.all (fun c => c.before args0 about1) = true
  refine all_split ?_ w_codes
  rw [← List.take_append_drop 24 words1, List.all_append, w_t1, ← List.take_append_drop 24 (words1.drop 24), List.all_append, w_t2, w_t3]
  rfl
set_option maxRecDepth 65536 in
theorem w_case : (Jvm.Cond.and given_1 narrow_1).before args0 about1 = true := by decide +kernel
theorem w_applies : (headSpec (Jvm.Cond.code x code maxLocals ret :: tables_1) room_1).applies x e0.platform about1 = true :=
  (Spec.applies_iff w_frames).mpr ⟨w_running, w_runnable, w_alone, w_named, w_hears, w_ripe, w_room, w_tables⟩
theorem atStart : AtStart classFile x code maxLocals ret World_1 tables_1 room_1 Calls_1 rest_1 Pre_1 launch0 p0 e0 about1 theMethod args0 below0 :=
  ⟨lists_1, trivial, launch0.admits_env _ _ _, launch0.least_env, fairChoices_fair.cas, fairChoices_fair.clock, w_frames, w_args, w_heap, w_applies, trivial, trivial, w_case⟩
end start1
theorem witness_1 : WitnessClaimed_1 := ⟨start1.p0, start1.e0, start1.about1, start1.theMethod, start1.args0, start1.below0, start1.atStart⟩
end Jvm.Pilot.@@N@@
