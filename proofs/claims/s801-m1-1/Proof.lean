import JvmDerived
import JvmDerived.Pilot.@@N@@Statement
import JvmDerived.Pilot.@@N@@Code
set_option linter.unusedVariables false
set_option linter.unusedSimpArgs false
namespace Jvm.Pilot.@@N@@
open Jvm Jvm.ClassFile Sem Op Lib Jvm.Free Jvm.Stand Jvm.LawKit Jvm.RoadKit Bundle Jvm.Pilot.@@N@@.Jvm.D
section Own
variable {p : Program} {l : Launch} {e : Env} {R : Room} {s : State} {m : MethodId} {args : Array Value} {below : List Frame} {meth : Method} {c : Code} {T : State} {locs : List Loc} {cells slots : Nat} {Z : State} {a0 : Array Value} {h : Heap} {Q : Option Value → Heap → List Loc → Prop} {C S : Nat} {u u' : State} {F : Outcome → State → List Loc → Prop}
/-- from u the invocation comes to its end, and Q holds of what it returns, of the heap and of the places written -/
def ownFin (p : Program) (e : Env) (below : List Frame) (F : Outcome → State → List Loc → Prop) (Q : Option Value → Heap → List Loc → Prop) (u : State) : Prop :=
  ∃ t o, Steps p.tables e below u t ∧ t.status = .running ∧ Ended t below o ∧ ∃ v L, o = .returned v ∧ Q v t.heap L ∧ F o t L
/-- how it ends: at most C new cells of S slots, the tables warmer, nothing old written but at the places L -/
def ownFE (s : State) (C S : Nat) : Outcome → State → List Loc → Prop := fun o t L => FrameEnd s o t L C S
theorem ownVia (f : ∀ t, Steps p.tables e below u' t → Steps p.tables e below u t) (k : ownFin p e below F Q u') : ownFin p e below F Q u := by
  obtain ⟨t, o, h1, r⟩ := k
  exact ⟨t, o, f t h1, r⟩
theorem ownRet (X : Stand p l e R s m args below meth c T locs cells slots) (hlk : meth.locks = false) {v : Option Value} (hv : meth.sig.returnType = none → v = none)
    (f : ∀ fs, (∀ (f : JFrame) (acts : List Action), f.method = m → f.locked = none → f.entered = [] → (doReturn e (T.setTop f) acts v).1 = T.setFrames fs) → Steps p.tables e below u (T.setFrames fs))
    (hC : cells ≤ C) (hS : slots ≤ S) (hQ : Q v T.heap locs) : ownFin p e below (ownFE s C S) Q u := by
  obtain ⟨fs, hr, hrun, hended, hW, hsame⟩ := X.leave (v := v) hv hlk
  exact ⟨_, _, f fs hr, hrun, hended, v, _, rfl, hQ, ⟨_, rfl⟩, hW, hsame.mono hC hS⟩
theorem ownRetI (X : Stand p l e R s m args below meth c T locs cells slots) (hx : p.tables.exec = Jvm.exec) (hlk : meth.locks = false) (hret : meth.sig.returnType = some .int) {pc : Nat} {Ls : Array Slot} {z : Int32} {rest : List Value} (hd : decode c.code pc = .ok (.ireturn, 1)) (hC : cells ≤ C) (hS : slots ≤ S) (hQ : Q (some (.int z)) T.heap locs) : ownFin p e below (ownFE s C S) Q (T.setTop (mkF m pc Ls (.int z :: rest))) :=
  ownRet X hlk (v := some (.int z)) (fun q => by rw [hret] at q; cases q) (fun fs hr => retOut X hx hret rfl (Or.inl ⟨rfl, Or.inl rfl, z, rfl⟩) hd hr) hC hS hQ
theorem ownRetZ (X : Stand p l e R s m args below meth c T locs cells slots) (hx : p.tables.exec = Jvm.exec) (hlk : meth.locks = false) (hret : meth.sig.returnType = some .boolean) {pc : Nat} {Ls : Array Slot} {z : Int32} {rest : List Value} (hd : decode c.code pc = .ok (.ireturn, 1)) (hC : cells ≤ C) (hS : slots ≤ S) (hz : z = 0 ∨ z = 1) (hQ : Q (some (.int z)) T.heap locs) : ownFin p e below (ownFE s C S) Q (T.setTop (mkF m pc Ls (.int z :: rest))) :=
  ownRet X hlk (v := some (.int z)) (fun q => by rw [hret] at q; cases q) (fun fs hr => retOut X hx hret (by rcases hz with rfl | rfl <;> rfl) (Or.inl ⟨rfl, Or.inr (Or.inl rfl), z, rfl⟩) hd hr) hC hS hQ
theorem ownRetJ (X : Stand p l e R s m args below meth c T locs cells slots) (hx : p.tables.exec = Jvm.exec) (hlk : meth.locks = false) (hret : meth.sig.returnType = some .long) {pc : Nat} {Ls : Array Slot} {z : Int64} {rest : List Value} (hd : decode c.code pc = .ok (.lreturn, 1)) (hC : cells ≤ C) (hS : slots ≤ S) (hQ : Q (some (.long z)) T.heap locs) : ownFin p e below (ownFE s C S) Q (T.setTop (mkF m pc Ls (.long z :: rest))) :=
  ownRet X hlk (v := some (.long z)) (fun q => by rw [hret] at q; cases q) (fun fs hr => retOut X hx hret rfl (Or.inr (Or.inl ⟨rfl, rfl, z, rfl⟩)) hd hr) hC hS hQ
theorem ownRetA (X : Stand p l e R s m args below meth c T locs cells slots) (hx : p.tables.exec = Jvm.exec) (hlk : meth.locks = false) {ty : FieldType} (hret : meth.sig.returnType = some ty) (hty : ty.isReference = true) {pc : Nat} {Ls : Array Slot} {a : Addr} {rest : List Value} (hd : decode c.code pc = .ok (.areturn, 1)) (hC : cells ≤ C) (hS : slots ≤ S) (hQ : Q (some (.ref a)) T.heap locs) : ownFin p e below (ownFE s C S) Q (T.setTop (mkF m pc Ls (.ref a :: rest))) :=
  ownRet X hlk (v := some (.ref a)) (fun q => by rw [hret] at q; cases q) (fun fs hr => retOut X hx hret (by cases ty <;> first | rfl | cases hty) (Or.inr (Or.inr (Or.inr (Or.inr ⟨rfl, hty, rfl⟩)))) hd hr) hC hS hQ
theorem ownRetV (X : Stand p l e R s m args below meth c T locs cells slots) (hx : p.tables.exec = Jvm.exec) (hlk : meth.locks = false) (hret : meth.sig.returnType = none) {pc : Nat} {Ls : Array Slot} (hd : decode c.code pc = .ok (.return_, 1)) (hC : cells ≤ C) (hS : slots ≤ S) (hQ : Q none T.heap locs) : ownFin p e below (ownFE s C S) Q (T.setTop (mkF m pc Ls [])) :=
  ownRet X hlk (v := none) (fun _ => rfl) (fun fs hr => X.returnOut hx hret hd hr) hC hS hQ
/-- the contract of a method at given arguments and a given heap -/
abbrev ownMet (l : Launch) (Z : State) (y : MethodName) (bytes : ByteArray) (maxL : Nat) (ret : Option FieldType) (ws : List Jvm.Cond) (rm : Room) (as' : Array Value) (h0 : Heap) (Q : Option Value → Heap → List Loc → Prop) : Prop :=
  MetFree l y (head1 (Jvm.Cond.code y bytes maxL ret :: ws) rm) (fun a U => a = as' ∧ Z.Warmed39 U.vm ∧ U.heap = h0) (fun _ _ _ _ _ => True) (fun _ U o U' => ∃ v L, o = .returned v ∧ Q v U'.heap L ∧ FrameEnd U o U' L rm.cells rm.slots)
theorem ownBody {y : MethodName} {bytes : ByteArray} {maxL : Nat} {ret : Option FieldType} {ws : List Jvm.Cond} {rm : Room} {as' : Array Value} {h0 : Heap} (hpl : plainFor y = true)
    (H : ∀ (p : Program) (e : Env) (s : State) (m : MethodId) (below : List Frame) (meth : Method) (c : Code) (T : State), p.tables.exec = Jvm.exec → c.code = bytes → c.maxLocals = maxL → meth.sig.returnType = ret → meth.locks = false → Z.Warmed39 s.vm → s.vm.findClass y.cls = some m.cls → meth.name = y.name →
      Stand p l e rm s m as' below meth c T [] 0 0 → T.heap = h0 → ownFin p e below (ownFE s rm.cells rm.slots) Q (T.setTop (entryFrame m as' maxL))) : ownMet l Z y bytes maxL ret ws rm as' h0 Q := by
  refine MetFree.of_bodySF hpl hisR ?_
  intro p e s m args below meth c s₁ Bd hml0 hP hK
  obtain ⟨rfl, hZ, hh⟩ := hP
  exact H p e s m below meth c s₁ Bd.exec Bd.bytes hml0 Bd.returns Bd.notSynchronized hZ (findClass_of_methodNamed Bd.named) (name_of_methodNamed Bd.named Bd.method).1 (Stand.of_body Bd) (by rw [← hh, Bd.state]; rfl)
theorem ownCallS {own : String} {index : Nat} {y : MethodName} {bytes : ByteArray} {maxL : Nat} {ret : Option FieldType} {rm : Room} {as' : Array Value} {Q' : Option Value → Heap → List Loc → Prop}
    (X : Stand p l e R s m args below meth c T locs cells slots) (hx : p.tables.exec = Jvm.exec) (hZ : Z.Warmed39 s.vm) (hown : s.vm.findClass own = some m.cls)
    (w1 : (Jvm.Cond.methodLink own index y).before a0 Z = true) (w2 : (Jvm.Cond.static y).before a0 Z = true) (w3 : (Jvm.Cond.initialized y.cls).before a0 Z = true) (w4 : (Jvm.Cond.code y bytes maxL ret).before a0 Z = true)
    (hy : y.cls ≠ "java/lang/invoke/MethodHandle" ∧ y.cls ≠ "java/lang/invoke/VarHandle") (eT : T.heap = h) (hM : ownMet l Z y bytes maxL ret [] rm as' h Q')
    {pc : Nat} {Ls : Array Slot} {st : List Value} (hsz : Ls.size = c.maxLocals) (argsL rest : List Value) (hlen : ∀ sig, parseMethodDescriptor y.desc = some sig → argsL.length = sig.parameters.length)
    (hst : st = argsL.reverse ++ rest) (has : argsL.toArray = as') (W : Nat) (hW : (rest.map fun v => v.category).sum = W) (hd : decode c.code pc = .ok (.invokestatic index, 3))
    (hfr : rm.frames + 1 ≤ R.frames) (hlo : W + (maxL + 11) + rm.locals ≤ R.locals) (hce : cells + rm.cells ≤ R.cells) (hsl : slots + rm.slots ≤ R.slots)
    (K : ∀ v T' L', Stand p l e R s m args below meth c T' (locs ++ L') (cells + rm.cells) (slots + rm.slots) → Q' v T'.heap L' → ownFin p e below F Q (T'.setTop (mkF m (pc + 3) Ls (v.toList ++ rest)))) :
    ownFin p e below F Q (T.setTop (mkF m pc Ls st)) := by
  obtain ⟨v, _, ⟨T2, L2, k2, n2⟩, -, X2, ⟨Lc2, hQ2, l2, y2, z2⟩, st2⟩ := Jvm.LawKit.callS X hx (y := y) hown (mvT hZ w1) (mvT hZ w2) (mvT hZ w3) (mvT hZ w4) hy (backOf (W := W) hM hZ w4 w3 hfr hlo) (g := mkF m pc Ls st) rfl hsz (argsL := argsL) (rest := rest) hlen hst (by show 2 * 0 + _ ≤ _; omega) hd (fun _ _ => ⟨has, eT, hce, hsl⟩)
  dsimp only [Pt.U, Pt.locs, Pt.cells, Pt.slots] at X2 l2 y2 z2 st2 hQ2
  subst l2 y2 z2
  exact ownVia st2 (K v T2 Lc2 X2 hQ2)
theorem ownCallN {own : String} {index : Nat} {y : MethodName} {bytes : ByteArray} {maxL : Nat} {rm : Room} {as' : Array Value} {Q' : Option Value → Heap → List Loc → Prop}
    (X : Stand p l e R s m args below meth c T locs cells slots) (hx : p.tables.exec = Jvm.exec) (hZ : Z.Warmed39 s.vm) (hown : s.vm.findClass own = some m.cls) (hy1 : y.name = "<init>")
    (w1 : (Jvm.Cond.methodLink own index y).before a0 Z = true) (w2 : (Jvm.Cond.instanceMethod y).before a0 Z = true) (w3 : (Jvm.Cond.initialized y.cls).before a0 Z = true) (w4 : (Jvm.Cond.code y bytes maxL none).before a0 Z = true)
    (hy : y.cls ≠ "java/lang/invoke/MethodHandle" ∧ y.cls ≠ "java/lang/invoke/VarHandle") (eT : T.heap = h) (hM : ownMet l Z y bytes maxL none [] rm as' h Q')
    {pc : Nat} {Ls : Array Slot} {st : List Value} (hsz : Ls.size = c.maxLocals) (a : Addr) (argsL rest : List Value) (hlen : ∀ sig, parseMethodDescriptor y.desc = some sig → argsL.length = sig.parameters.length)
    (hst : st = argsL.reverse ++ .ref a :: rest) (has : (Value.ref a :: argsL).toArray = as') (W : Nat) (hW : (rest.map fun v => v.category).sum = W) (hd : decode c.code pc = .ok (.invokespecial index, 3))
    (hfr : rm.frames + 1 ≤ R.frames) (hlo : W + (maxL + 11) + rm.locals ≤ R.locals) (hce : cells + rm.cells ≤ R.cells) (hsl : slots + rm.slots ≤ R.slots)
    (K : ∀ v T' L', Stand p l e R s m args below meth c T' (locs ++ L') (cells + rm.cells) (slots + rm.slots) → Q' v T'.heap L' → ownFin p e below F Q (T'.setTop (mkF m (pc + 3) Ls (v.toList ++ rest)))) :
    ownFin p e below F Q (T.setTop (mkF m pc Ls st)) := by
  obtain ⟨v, _, ⟨T2, L2, k2, n2⟩, -, X2, ⟨Lc2, hQ2, l2, y2, z2⟩, st2⟩ := X.specialBack hx (y := y) hy1 hown (mvT hZ w1) (mvT hZ w2) (mvT hZ w4) hy (backOf (W := W) hM hZ w4 w3 hfr hlo) (g := mkF m pc Ls st) rfl hsz (Steps.refl _) (a := a) (argsL := argsL) (rest := rest) hlen hst (by show 2 * 0 + _ ≤ _; omega) hd (fun _ _ => ⟨has, eT, hce, hsl⟩)
  dsimp only [Pt.U, Pt.locs, Pt.cells, Pt.slots] at X2 l2 y2 z2 st2 hQ2
  subst l2 y2 z2
  exact ownVia (fun _ k => st2.trans k) (K v T2 Lc2 X2 hQ2)
theorem ownCallV {own C' : String} {index : Nat} {y z : MethodName} {bytes : ByteArray} {maxL : Nat} {ret : Option FieldType} {rm : Room} {as' : Array Value} {Q' : Option Value → Heap → List Loc → Prop}
    (X : Stand p l e R s m args below meth c T locs cells slots) (hx : p.tables.exec = Jvm.exec) (hZ : Z.Warmed39 s.vm) (hown : s.vm.findClass own = some m.cls)
    (w1 : (Jvm.Cond.methodLink own index y).before a0 Z = true) (w2 : (Jvm.Cond.declares y).before a0 Z = true) (w5 : (Jvm.Cond.selects y.cls y y).before a0 Z = true) (w6 : (Jvm.Cond.selects C' y z).before a0 Z = true) (w7 : (Jvm.Cond.instanceMethod z).before a0 Z = true) (w3 : (Jvm.Cond.initialized z.cls).before a0 Z = true) (w4 : (Jvm.Cond.code z bytes maxL ret).before a0 Z = true)
    (hy : y.cls ≠ "java/lang/invoke/MethodHandle" ∧ y.cls ≠ "java/lang/invoke/VarHandle") (eT : T.heap = h) {a : Addr} (E : Exa Z h a C') (hM : ownMet l Z z bytes maxL ret [] rm as' h Q')
    {pc : Nat} {Ls : Array Slot} {st : List Value} (hsz : Ls.size = c.maxLocals) (argsL rest : List Value) (hlen : ∀ sig, parseMethodDescriptor y.desc = some sig → argsL.length = sig.parameters.length)
    (hst : st = argsL.reverse ++ .ref a :: rest) (has : (Value.ref a :: argsL).toArray = as') (W : Nat) (hW : (rest.map fun v => v.category).sum = W) (hd : decode c.code pc = .ok (.invokevirtual index, 3))
    (hfr : rm.frames + 1 ≤ R.frames) (hlo : W + (maxL + 11) + rm.locals ≤ R.locals) (hce : cells + rm.cells ≤ R.cells) (hsl : slots + rm.slots ≤ R.slots)
    (K : ∀ v T' L', Stand p l e R s m args below meth c T' (locs ++ L') (cells + rm.cells) (slots + rm.slots) → Q' v T'.heap L' → ownFin p e below F Q (T'.setTop (mkF m (pc + 3) Ls (v.toList ++ rest)))) :
    ownFin p e below F Q (T.setTop (mkF m pc Ls st)) := by
  obtain ⟨cq, kq, qa, qb, qc⟩ := isOf hZ eT E
  obtain ⟨v, _, ⟨T2, L2, k2, n2⟩, -, X2, ⟨Lc2, hQ2, l2, y2, z2⟩, st2⟩ := X.virtualBack hx (y := y) (z := z) hown (mvT hZ w1) (mvT hZ w2) (notFace_of_selects (args := #[]) (mvT hZ w5)) (mvT hZ w6) (mvT hZ w7) hy (backOf (W := W) hM hZ w4 w3 hfr hlo) qa qc (g := mkF m pc Ls st) rfl hsz (Steps.refl _) (argsL := argsL) (rest := rest) hlen hst (by show 2 * 0 + _ ≤ _; omega) hd (fun _ _ => ⟨has, eT, hce, hsl⟩)
  dsimp only [Pt.U, Pt.locs, Pt.cells, Pt.slots] at X2 l2 y2 z2 st2 hQ2
  subst l2 y2 z2
  exact ownVia (fun _ k => st2.trans k) (K v T2 Lc2 X2 hQ2)
theorem ownLen {a : Addr} {k : ClassId} {ty : FieldType} {z : Int32} {vs : List Value} {dv : Value} (X : Stand p l e R s m args below meth c T locs cells slots) (hx : p.tables.exec = Jvm.exec) (hZ : Z.Warmed39 s.vm) (eT : T.heap = h) (A : Arv Z h a k ty z vs dv) {pc : Nat} {Ls : Array Slot} {rest : List Value} (hd : decode c.code pc = .ok (.arraylength, 1))
    (K : ownFin p e below F Q (T.setTop (mkF m (pc + 1) Ls (.int z :: rest)))) : ownFin p e below F Q (T.setTop (mkF m pc Ls (.ref a :: rest))) := by
  obtain ⟨cl, Ar, -, Sz, Nz, -, -⟩ := A
  rw [← len_of Sz Nz] at K
  exact ownVia (fun t k => X.arraylength hx (by rw [eT]; exact Ar.1) (State.isArrayOf_alike hZ.alike Ar.2.1) (g := mkF m pc Ls (.ref a :: rest)) rfl rfl hd t k) K
theorem ownBaload {a : Addr} {k : ClassId} {z j : Int32} {vs : List Value} {dv v : Value} (X : Stand p l e R s m args below meth c T locs cells slots) (hx : p.tables.exec = Jvm.exec) (hZ : Z.Warmed39 s.vm) (eT : T.heap = h) (A : Arv Z h a k .byte z vs dv) (hj : ¬ j < 0 ∧ j < z) (hv : vs.getD j.toNatClampNeg dv = v) {pc : Nat} {Ls : Array Slot} {rest : List Value} (hd : decode c.code pc = .ok (.baload, 1))
    (K : ownFin p e below F Q (T.setTop (mkF m (pc + 1) Ls (v :: rest)))) : ownFin p e below F Q (T.setTop (mkF m pc Ls (.int j :: .ref a :: rest))) := by
  obtain ⟨cl, Ar, -, Sz, Nz, H, -⟩ := A
  have hin := inb_of Sz hj
  exact ownVia (fun t k => X.baloadBytes hx (by rw [eT]; exact Ar.1) (State.isArrayOf_alike hZ.alike Ar.2.1) Ar.2.2 hin (H.at hin hv) (g := mkF m pc Ls (.int j :: .ref a :: rest)) rfl rfl hd t k) K
theorem ownIaload {a : Addr} {k : ClassId} {z j : Int32} {vs : List Value} {dv v : Value} (X : Stand p l e R s m args below meth c T locs cells slots) (hx : p.tables.exec = Jvm.exec) (hZ : Z.Warmed39 s.vm) (eT : T.heap = h) (A : Arv Z h a k .int z vs dv) (hj : ¬ j < 0 ∧ j < z) (hv : vs.getD j.toNatClampNeg dv = v) {pc : Nat} {Ls : Array Slot} {rest : List Value} (hd : decode c.code pc = .ok (.iaload, 1))
    (K : ownFin p e below F Q (T.setTop (mkF m (pc + 1) Ls (v :: rest)))) : ownFin p e below F Q (T.setTop (mkF m pc Ls (.int j :: .ref a :: rest))) := by
  obtain ⟨cl, Ar, -, Sz, Nz, H, -⟩ := A
  have hin := inb_of Sz hj
  exact ownVia (fun t k => X.iaload hx (by rw [eT]; exact Ar.1) (State.isArrayOf_alike hZ.alike Ar.2.1) Ar.2.2 hin (H.at hin hv) (g := mkF m pc Ls (.int j :: .ref a :: rest)) rfl rfl hd t k) K
theorem ownLaload {a : Addr} {k : ClassId} {z j : Int32} {vs : List Value} {dv v : Value} (X : Stand p l e R s m args below meth c T locs cells slots) (hx : p.tables.exec = Jvm.exec) (hZ : Z.Warmed39 s.vm) (eT : T.heap = h) (A : Arv Z h a k .long z vs dv) (hj : ¬ j < 0 ∧ j < z) (hv : vs.getD j.toNatClampNeg dv = v) {pc : Nat} {Ls : Array Slot} {rest : List Value} (hd : decode c.code pc = .ok (.laload, 1))
    (K : ownFin p e below F Q (T.setTop (mkF m (pc + 1) Ls (v :: rest)))) : ownFin p e below F Q (T.setTop (mkF m pc Ls (.int j :: .ref a :: rest))) := by
  obtain ⟨cl, Ar, -, Sz, Nz, H, -⟩ := A
  have hin := inb_of Sz hj
  exact ownVia (fun t k => X.laload hx (by rw [eT]; exact Ar.1) (State.isArrayOf_alike hZ.alike Ar.2.1) Ar.2.2 hin (H.at hin hv) (g := mkF m pc Ls (.int j :: .ref a :: rest)) rfl rfl hd t k) K
theorem ownBastore {a : Addr} {k : ClassId} {z j x : Int32} {vs : List Value} {dv : Value} {n0 : Nat} (X : Stand p l e R s m args below meth c T locs cells slots) (hx : p.tables.exec = Jvm.exec) (hZ : Z.Warmed39 s.vm) (eT : T.heap = h) (A : Arv Z h a k .byte z vs dv) (hj : ¬ j < 0 ∧ j < z) (i : Nat) (hi : j.toNatClampNeg = i) (hl : i < vs.length) (N : Fr n0 locs) (ge : n0 ≤ a) {pc : Nat} {Ls : Array Slot} {rest : List Value} (hd : decode c.code pc = .ok (.bastore, 1))
    (K : ∀ T' h' L', Stand p l e R s m args below meth c T' L' cells slots → T'.heap = h' → Fr n0 L' → Wr h h' a i (.int (nar .byte x)) → Arv Z h' a k .byte z (vs.set i (.int (nar .byte x))) dv → ownFin p e below F Q (T'.setTop (mkF m (pc + 1) Ls rest))) :
    ownFin p e below F Q (T.setTop (mkF m pc Ls (.int x :: .int j :: .ref a :: rest))) := by
  obtain ⟨cl, Ar, q1, Sz, Nz, H, G⟩ := A
  obtain ⟨T', h', X', e', W, st⟩ := stB X hx hZ eT Ar (j := j) (x := x) (inb_of Sz hj) (g := mkF m pc Ls (.int x :: .int j :: .ref a :: rest)) rfl rfl hd
  have N' := Fr.snoc X' N ge
  have A' := Arv.set Ar q1 Sz Nz H G (fits_nar_byte x) W i hi hl
  rw [hi] at W
  exact ownVia st (K T' h' _ X' e' N' W A')
theorem ownIastore {a : Addr} {k : ClassId} {z j x : Int32} {vs : List Value} {dv : Value} {n0 : Nat} (X : Stand p l e R s m args below meth c T locs cells slots) (hx : p.tables.exec = Jvm.exec) (hZ : Z.Warmed39 s.vm) (eT : T.heap = h) (A : Arv Z h a k .int z vs dv) (hj : ¬ j < 0 ∧ j < z) (i : Nat) (hi : j.toNatClampNeg = i) (hl : i < vs.length) (N : Fr n0 locs) (ge : n0 ≤ a) {pc : Nat} {Ls : Array Slot} {rest : List Value} (hd : decode c.code pc = .ok (.iastore, 1))
    (K : ∀ T' h' L', Stand p l e R s m args below meth c T' L' cells slots → T'.heap = h' → Fr n0 L' → Wr h h' a i (.int x) → Arv Z h' a k .int z (vs.set i (.int x)) dv → ownFin p e below F Q (T'.setTop (mkF m (pc + 1) Ls rest))) :
    ownFin p e below F Q (T.setTop (mkF m pc Ls (.int x :: .int j :: .ref a :: rest))) := by
  obtain ⟨cl, Ar, q1, Sz, Nz, H, G⟩ := A
  obtain ⟨T', h', X', e', W, st⟩ := stI X hx hZ eT Ar (j := j) (x := x) (inb_of Sz hj) (g := mkF m pc Ls (.int x :: .int j :: .ref a :: rest)) rfl rfl hd
  have N' := Fr.snoc X' N ge
  have A' := Arv.set Ar q1 Sz Nz H G rfl W i hi hl
  rw [hi] at W
  exact ownVia st (K T' h' _ X' e' N' W A')
theorem ownLastore {a : Addr} {k : ClassId} {z j : Int32} {x : Int64} {vs : List Value} {dv : Value} {n0 : Nat} (X : Stand p l e R s m args below meth c T locs cells slots) (hx : p.tables.exec = Jvm.exec) (hZ : Z.Warmed39 s.vm) (eT : T.heap = h) (A : Arv Z h a k .long z vs dv) (hj : ¬ j < 0 ∧ j < z) (i : Nat) (hi : j.toNatClampNeg = i) (hl : i < vs.length) (N : Fr n0 locs) (ge : n0 ≤ a) {pc : Nat} {Ls : Array Slot} {rest : List Value} (hd : decode c.code pc = .ok (.lastore, 1))
    (K : ∀ T' h' L', Stand p l e R s m args below meth c T' L' cells slots → T'.heap = h' → Fr n0 L' → Wr h h' a i (.long x) → Arv Z h' a k .long z (vs.set i (.long x)) dv → ownFin p e below F Q (T'.setTop (mkF m (pc + 1) Ls rest))) :
    ownFin p e below F Q (T.setTop (mkF m pc Ls (.long x :: .int j :: .ref a :: rest))) := by
  obtain ⟨cl, Ar, q1, Sz, Nz, H, G⟩ := A
  obtain ⟨T', h', X', e', W, st⟩ := stJ X hx hZ eT Ar (j := j) (x := x) (inb_of Sz hj) (g := mkF m pc Ls (.long x :: .int j :: .ref a :: rest)) rfl rfl hd
  have N' := Fr.snoc X' N ge
  have A' := Arv.set Ar q1 Sz Nz H G rfl W i hi hl
  rw [hi] at W
  exact ownVia st (K T' h' _ X' e' N' W A')
theorem ownNewP {aty : ArrayType} {n : Int32} (X : Stand p l e R s m args below meth c T locs cells slots) (hx : p.tables.exec = Jvm.exec) (hZ : Z.Warmed39 s.vm) (w : (Jvm.Cond.arrayClass (newarray.typeOf aty)).before a0 Z = true) (eT : T.heap = h) (ad : String) (had : "[" ++ (newarray.typeOf aty).toString = ad) (hn : ¬ n < 0) (N : Nat) (hN : n.toNatClampNeg = N) (cap : Nat) (hcap : N ≤ cap) (hb : cap * 8 ≤ 536870912) (hc : cells + 1 ≤ R.cells) (hl : slots + cap ≤ R.slots)
    {pc : Nat} {Ls : Array Slot} {rest : List Value} (hd : decode c.code pc = .ok (.newarray aty, 2))
    (K : ∀ T' h' k a, a = h.size → Stand p l e R s m args below meth c T' locs (cells + 1) (slots + cap) → T'.heap = h' → Ext h h' → Arv Z h' a k (newarray.typeOf aty) n (List.replicate N (defaultValue (newarray.typeOf aty))) (defaultValue (newarray.typeOf aty)) → Exa Z h' a ad → ownFin p e below F Q (T'.setTop (mkF m (pc + 2) Ls (.ref a :: rest)))) :
    ownFin p e below F Q (T.setTop (mkF m pc Ls (.int n :: rest))) := by
  obtain ⟨T', h', k, X', e', E, A, Ex, st⟩ := newPE X hx hZ w eT (g := mkF m pc Ls (.int n :: rest)) rfl hd rfl hn (cap := cap) (by rw [hN]; exact hcap) hb hc hl had
  exact ownVia st (K T' h' k _ rfl X' e' E ((Arv.new A hn).pad (pad_rep [] _ _)) Ex)
theorem ownClone {own : String} {index : Nat} {a : Addr} {k : ClassId} {ty : FieldType} {z : Int32} {vs : List Value} {dv : Value} {ad : String} (X : Stand p l e R s m args below meth c T locs cells slots) (hx : p.tables.exec = Jvm.exec) (hZ : Z.Warmed39 s.vm) (hown : s.vm.findClass own = some m.cls)
    (w1 : (Jvm.Cond.methodLink own index ⟨ad, "clone", "()Ljava/lang/Object;"⟩).before a0 Z = true) (w2 : (Jvm.Cond.sameMethod ad "java/lang/Object" "clone" "()Ljava/lang/Object;").before a0 Z = true) (w3 : (Jvm.Cond.native ⟨"java/lang/Object", "clone", "()Ljava/lang/Object;"⟩).before a0 Z = true)
    (w4 : (Jvm.Cond.instanceMethod ⟨"java/lang/Object", "clone", "()Ljava/lang/Object;"⟩).before a0 Z = true) (w5 : (Jvm.Cond.selects ad ⟨ad, "clone", "()Ljava/lang/Object;"⟩ ⟨"java/lang/Object", "clone", "()Ljava/lang/Object;"⟩).before a0 Z = true) (w6 : (Jvm.Cond.castable ad "java/lang/Cloneable").before a0 Z = true)
    (eT : T.heap = h) (A : Arv Z h a k ty z vs dv) (E : Exa Z h a ad) {pc : Nat} {Ls : Array Slot} {rest : List Value} (hsz : Ls.size = c.maxLocals) (hd : decode c.code pc = .ok (.invokevirtual index, 3)) (hf : 1 ≤ R.frames) (W : Nat) (hW : (rest.map fun v => v.category).sum = W) (hlo : W + 14 ≤ R.locals) (cap : Nat) (hcap : z.toNatClampNeg ≤ cap) (hc : cells + 1 ≤ R.cells) (hsl : slots + cap ≤ R.slots)
    (K : ∀ T' h' b, b = h.size → Stand p l e R s m args below meth c T' locs (cells + 1) (slots + cap) → T'.heap = h' → Ext h h' → Arv Z h' b k ty z vs dv → Exa Z h' b ad → ownFin p e below F Q (T'.setTop (mkF m (pc + 3) Ls (.ref b :: rest)))) :
    ownFin p e below F Q (T.setTop (mkF m pc Ls (.ref a :: rest))) := by
  obtain ⟨T', h', X', e', Ex, A', E', st⟩ := cloneH X hx hZ hown w1 w2 w3 w4 w5 w6 eT A.arh E (g := mkF m pc Ls (.ref a :: rest)) rfl hsz rfl hd hf (W := W) (by show 2 * 0 + _ ≤ _; omega) hlo hcap hc hsl
  exact ownVia st (K T' h' _ rfl X' e' Ex A' E')
theorem ownCallP {own : String} {index : Nat} {y y2 : MethodName} {bytes : ByteArray} {maxL : Nat} {ret : Option FieldType} {rm : Room} {as' : Array Value} {Q' : Option Value → Heap → List Loc → Prop} {C' : String}
    (X : Stand p l e R s m args below meth c T locs cells slots) (hx : p.tables.exec = Jvm.exec) (hZ : Z.Warmed39 s.vm) (hown : s.vm.findClass own = some m.cls)
    (w1 : (Jvm.Cond.methodLink own index y).before a0 Z = true) (w2 : (Jvm.Cond.privateMethod y).before a0 Z = true) (w5 : (Jvm.Cond.selects y2.cls y2 y2).before a0 Z = true) (hc2 : y2.cls = y.cls) (w7 : (Jvm.Cond.instanceMethod y).before a0 Z = true) (w3 : (Jvm.Cond.initialized y.cls).before a0 Z = true) (w4 : (Jvm.Cond.code y bytes maxL ret).before a0 Z = true)
    (hy : y.cls ≠ "java/lang/invoke/MethodHandle" ∧ y.cls ≠ "java/lang/invoke/VarHandle") (eT : T.heap = h) {a : Addr} (E : Exa Z h a C') (hM : ownMet l Z y bytes maxL ret [] rm as' h Q')
    {pc : Nat} {Ls : Array Slot} {st : List Value} (hsz : Ls.size = c.maxLocals) (argsL rest : List Value) (hlen : ∀ sig, parseMethodDescriptor y.desc = some sig → argsL.length = sig.parameters.length)
    (hst : st = argsL.reverse ++ .ref a :: rest) (has : (Value.ref a :: argsL).toArray = as') (W : Nat) (hW : (rest.map fun v => v.category).sum = W) (hd : decode c.code pc = .ok (.invokevirtual index, 3))
    (hfr : rm.frames + 1 ≤ R.frames) (hlo : W + (maxL + 11) + rm.locals ≤ R.locals) (hce : cells + rm.cells ≤ R.cells) (hsl : slots + rm.slots ≤ R.slots)
    (K : ∀ v T' L', Stand p l e R s m args below meth c T' (locs ++ L') (cells + rm.cells) (slots + rm.slots) → Q' v T'.heap L' → ownFin p e below F Q (T'.setTop (mkF m (pc + 3) Ls (v.toList ++ rest)))) :
    ownFin p e below F Q (T.setTop (mkF m pc Ls st)) := by
  have hpriv : s.PrivateAt y := Cond.privateMethod_at (mvP hZ w2 (args := #[]))
  have hsel2 : (Jvm.Cond.selects y2.cls y2 y2).before args s = true := mvT hZ w5
  obtain ⟨c2, r2, m2, q1, q2, q3, q4, kP, hkP, hkPi⟩ := Cond.selects_spec hsel2
  have hf2 := findClass_of_methodNamed q3
  rw [hc2] at hf2
  have hsel : (Jvm.Cond.selects y.cls y y).before args s = true := selects_self_of_private hf2 hkP hkPi hpriv (mvT hZ w7) hy
  obtain ⟨cq, qc1, qc2⟩ := E.cell
  obtain ⟨v, _, ⟨T2, L2, k2, n2⟩, -, X2, ⟨Lc2, hQ2, l2, y2', z2⟩, st2⟩ := X.privateBack hx (y := y) hown (mvT hZ w1) (mvT hZ w7) hsel hpriv (mvT hZ w4) hy (backOf (W := W) hM hZ w4 w3 hfr hlo) (g := mkF m pc Ls st) rfl hsz (Steps.refl _) (a := a) (by rw [eT]; exact qc1) qc2 (argsL := argsL) (rest := rest) hlen hst (by show 2 * 0 + _ ≤ _; omega) hd (fun _ _ => ⟨has, eT, hce, hsl⟩)
  dsimp only [Pt.U, Pt.locs, Pt.cells, Pt.slots] at X2 l2 y2' z2 st2 hQ2
  subst l2 y2' z2
  exact ownVia (fun _ k => st2.trans k) (K v T2 Lc2 X2 hQ2)
theorem ownCast {own K' : String} {index : Nat} {a : Addr} (X : Stand p l e R s m args below meth c T locs cells slots) (hx : p.tables.exec = Jvm.exec) (hZ : Z.Warmed39 s.vm) (hown : s.vm.findClass own = some m.cls) (w : (Jvm.Cond.classLink own index K').before a0 Z = true) (eT : T.heap = h) (FI : Ins Z h a K' true) {pc : Nat} {Ls : Array Slot} {rest : List Value} (hd : decode c.code pc = .ok (.checkcast index, 3))
    (K : ∀ T', Stand p l e R s m args below meth c T' locs cells slots → T'.heap = h → ownFin p e below F Q (T'.setTop (mkF m (pc + 3) Ls (.ref a :: rest)))) : ownFin p e below F Q (T.setTop (mkF m pc Ls (.ref a :: rest))) := by
  obtain ⟨T', X', e', st⟩ := castY X hx hZ hown w eT FI (g := mkF m pc Ls (.ref a :: rest)) rfl rfl hd
  exact ownVia st (K T' X' e')
theorem own_clamp {j : Int32} {n : Nat} (h : j.toInt = (n : Int)) : j.toNatClampNeg = n := by
  show j.toInt.toNat = n
  rw [h]; rfl
theorem own_nneg {j : Int32} {n : Nat} (h : j.toInt = (n : Int)) : ¬ j < 0 := fun q => by
  have := Int32.lt_iff_toInt_lt.mp q
  have k0 : (0 : Int32).toInt = 0 := by decide
  omega
theorem ownCopy {own : String} {index : Nat} {a b : Addr} {k k' : ClassId} {ty : FieldType} {z z' sp dp nn : Int32} {vs vd : List Value} {dv dd : Value} {n0 : Nat} (X : Stand p l e R s m args below meth c T locs cells slots) (hx : p.tables.exec = Jvm.exec) (hZ : Z.Warmed39 s.vm) (hown : s.vm.findClass own = some m.cls)
    (w1 : (Jvm.Cond.methodLink own index Jvm.Stand.acN).before a0 Z = true) (w2 : (Jvm.Cond.native Jvm.Stand.acN).before a0 Z = true) (w3 : (Jvm.Cond.static Jvm.Stand.acN).before a0 Z = true) (w4 : (Jvm.Cond.initialized "java/lang/System").before a0 Z = true) (eT : T.heap = h)
    (A : Arv Z h a k ty z vs dv) (B : Arv Z h b k' ty z' vd dd) (hty : refKind ty = false) (i j n lz lz' : Nat) (hi : sp.toInt = (i : Int)) (hj : dp.toInt = (j : Int)) (hn : nn.toInt = (n : Int)) (hz : z.toInt = (lz : Int)) (hz' : z'.toInt = (lz' : Int)) (h4 : i + n ≤ lz) (h5 : j + n ≤ lz') (hl : j + n ≤ vd.length) (N : Fr n0 locs) (ge : n0 ≤ b)
    {pc : Nat} {Ls : Array Slot} {rest : List Value} (hsz : Ls.size = c.maxLocals) (hd : decode c.code pc = .ok (.invokestatic index, 3)) (hf : 1 ≤ R.frames) (W : Nat) (hW : (rest.map fun v => v.category).sum = W) (hlo : W + (nativeFrameWords "java/lang/System" "arraycopy" 5 + 11) ≤ R.locals)
    (K : ∀ T' h' L', Stand p l e R s m args below meth c T' L' cells slots → T'.heap = h' → Fr n0 L' → Keep h h' [b] → Arv Z h' b k' ty z' (vd.take j ++ ((List.range n).map fun x => vs.getD (i + x) dv) ++ vd.drop (j + n)) dd → ownFin p e below F Q (T'.setTop (mkF m (pc + 3) Ls rest))) :
    ownFin p e below F Q (T.setTop (mkF m pc Ls (.int nn :: .int dp :: .ref b :: .int sp :: .ref a :: rest))) := by
  have e1 := own_clamp hi
  have e2 := own_clamp hj
  have e3 := own_clamp hn
  have e4 := own_clamp hz
  have e5 := own_clamp hz'
  obtain ⟨T', h', L', X', e', N', K', B', st⟩ := cpA X hx hZ hown w1 w2 w3 w4 eT A B (Or.inl ⟨rfl, hty⟩) (own_nneg hi) (own_nneg hj) (own_nneg hn) (by omega) (by omega) rfl (by omega) N ge (g := mkF m pc Ls (.int nn :: .int dp :: .ref b :: .int sp :: .ref a :: rest)) rfl hsz rfl hd hf (W := W) (by show 2 * 0 + _ ≤ _; omega) hlo
  rw [e1, e2, e3] at B'
  exact ownVia st (K T' h' L' X' e' N' K' B')
theorem own_lti {a b : Int32} {x y : Int} (ha : a.toInt = x) (hb : b.toInt = y) : a < b ↔ x < y := by rw [Int32.lt_iff_toInt_lt, ha, hb]
theorem own_sub {a b : Int32} {i j : Nat} (ha : a.toInt = (i : Int)) (hb : b.toInt = (j : Int)) (h : j ≤ i) : (a - b).toInt = ((i - j : Nat) : Int) := by
  have h1 := c_isub a b
  have h2 := rng32 (a - b)
  have h3 := rng32 a
  have h4 := rng32 b
  omega
theorem own_add {a b : Int32} {i j : Nat} (ha : a.toInt = (i : Int)) (hb : b.toInt = (j : Int)) (h : i + j < 2147483648) : (a + b).toInt = ((i + j : Nat) : Int) := by
  have h1 := c_iadd a b
  have h2 := rng32 (a + b)
  omega
theorem own_nlt {a b : Int32} {i j : Int} (ha : a.toInt = i) (hb : b.toInt = j) (h : j ≤ i) : ¬ a < b := fun q => by
  have := (own_lti ha hb).mp q
  omega
theorem own_enum {args : Array Value} {C n d K : String} (hx : (Jvm.Cond.exactly (.static C n d) K).value args s none s [] = some true) (wi : (Jvm.Cond.initialized C).before args s = true) (wl : (Jvm.Cond.laysStatic C n d).before args s = true) :
    ∃ a, (Term.static C n d).eval args s none [] s = some (.ref a) ∧ Sta s s.heap C n d (.ref a) ∧ Exa s s.heap a K := by
  obtain ⟨a, ev⟩ := exa_v hx
  exact ⟨a, ev, Sta.start ev (Or.inr ⟨wi, wl⟩), Exa.start ev hx⟩
theorem own_eqv {args : Array Value} {t : Term} {k : Int32} (hf : (Jvm.Cond.eq t (.int k)).value args s none s [] = some true) : t.eval args s none [] s = some (.int k) := by
  cases hv : t.eval args s none [] s with
  | none => simp [Cond.value, hv] at hf
  | some v =>
    cases v <;> simp [Cond.value, hv, Term.eval] at hf
    rw [hf]
theorem own_efld {args : Array Value} {t : Term} {a : Addr} {C n d : String} {k : Int32} (ev : t.eval args s none [] s = some (.ref a)) (hf : (Jvm.Cond.eq (.field t C n d) (.int k)).value args s none s [] = some true) : Fld s s.heap a C n d (.int k) :=
  Fld.start ((fld_at ev).symm.trans (own_eqv hf))
theorem own_iff_f {A B P : Prop} (hA : ¬ A) (h : P ↔ A ∨ B) : P ↔ B := by simpa [hA] using h
theorem own_iff_t {A B P : Prop} (hA : A) (h : P ↔ A ∨ B) : P := h.mpr (Or.inl hA)
theorem own_ref_ne {a b : Addr} (h : a ≠ b) : ¬ (Value.ref a) = .ref b := fun q => h (by cases q; rfl)
theorem own_sz {n0 : Nat} {h' : Heap} (q : n0 ≤ h.size) (E : Ext h h') : n0 ≤ h'.size := Nat.le_trans q E.1
theorem own_szW {n0 : Nat} {h' : Heap} {a : Addr} {sl : Nat} {v : Value} (q : n0 ≤ h.size) (W : Wr h h' a sl v) : n0 ≤ h'.size := by rw [W.size]; exact q
theorem own_eqi {a b : Int32} {x y : Int} (ha : a.toInt = x) (hb : b.toInt = y) : a = b ↔ x = y := by rw [← Int32.toInt_inj, ha, hb]
theorem own_ltl {a b : Int64} {x y : Int} (ha : a.toInt = x) (hb : b.toInt = y) : a < b ↔ x < y := by rw [Int64.lt_iff_toInt_lt, ha, hb]
theorem own_eql {a b : Int64} {x y : Int} (ha : a.toInt = x) (hb : b.toInt = y) : a = b ↔ x = y := by rw [← Int64.toInt_inj, ha, hb]
theorem own_getD_map {α β : Type} (f : α → β) (d : α) (xs : List α) (n : Nat) : (xs.map f).getD n (f d) = f (xs.getD n d) := by
  simp only [List.getD_eq_getElem?_getD, List.getElem?_map]
  cases xs[n]? <;> rfl
theorem own_idx {j z : Int32} {zi : Int} (hz : z.toInt = zi) (h1 : 0 ≤ j.toInt) (h2 : j.toInt < zi) : ¬ j < 0 ∧ j < z := ⟨fun q => by have := (own_lti rfl (by decide : (0 : Int32).toInt = 0)).mp q; omega, Int32.lt_iff_toInt_lt.mpr (by rw [hz]; exact h2)⟩
end Own
def own_xc (q : Int32) : Int32 := if q.toInt = 9 ∨ q.toInt = 10 ∨ q.toInt = 13 ∨ (32 ≤ q.toInt ∧ q.toInt ≤ 55295) ∨ (57344 ≤ q.toInt ∧ q.toInt ≤ 65533) ∨ 65536 ≤ q.toInt then 1 else 0
theorem own_xc1 {q : Int32} (h : q.toInt = 9 ∨ q.toInt = 10 ∨ q.toInt = 13 ∨ (32 ≤ q.toInt ∧ q.toInt ≤ 55295) ∨ (57344 ≤ q.toInt ∧ q.toInt ≤ 65533) ∨ 65536 ≤ q.toInt) : own_xc q = 1 := if_pos h
theorem own_xc0 {q : Int32} (h : ¬ (q.toInt = 9 ∨ q.toInt = 10 ∨ q.toInt = 13 ∨ (32 ≤ q.toInt ∧ q.toInt ≤ 55295) ∨ (57344 ≤ q.toInt ∧ q.toInt ≤ 65533) ∨ 65536 ≤ q.toInt)) : own_xc q = 0 := if_neg h
def own_tab : List Int32 := [-2147483648, -1, 0, 9, 10, 13, 31, 55295, 57343, 65533, 65535, 1114111]
theorem own_i12 (q : Int32) : 0 ≤ (((q.toUInt32 >>> ((1 : Int32) &&& 31).toUInt32).toInt32) % (12 : Int32)).toInt ∧ (((q.toUInt32 >>> ((1 : Int32) &&& 31).toUInt32).toInt32) % (12 : Int32)).toInt < 12 := by
  have a := c_iushr q 1 1 (by decide) (by decide)
  have b := (c_irem ((q.toUInt32 >>> ((1 : Int32) &&& 31).toUInt32).toInt32) 12 12 (by decide)).1 (by omega)
  omega
theorem own_rem (q : Int32) (h : 1114111 < q.toInt) : (q % (1114112 : Int32)).toInt ≤ 1114111 := by
  have b := (c_irem q 1114112 1114112 (by decide)).1 (by omega)
  omega
theorem d1_0 : decode prog_145_method_28_code 0 = .ok (.iload_n 0, 1) := by decide +kernel
theorem d1_1 : decode prog_145_method_28_code 1 = .ok (.bipush 9, 2) := by decide +kernel
theorem d1_3 : decode prog_145_method_28_code 3 = .ok (.if_icmp .eq 49, 3) := by decide +kernel
theorem d1_6 : decode prog_145_method_28_code 6 = .ok (.iload_n 0, 1) := by decide +kernel
theorem d1_7 : decode prog_145_method_28_code 7 = .ok (.bipush 10, 2) := by decide +kernel
theorem d1_9 : decode prog_145_method_28_code 9 = .ok (.if_icmp .eq 43, 3) := by decide +kernel
theorem d1_12 : decode prog_145_method_28_code 12 = .ok (.iload_n 0, 1) := by decide +kernel
theorem d1_13 : decode prog_145_method_28_code 13 = .ok (.bipush 13, 2) := by decide +kernel
theorem d1_15 : decode prog_145_method_28_code 15 = .ok (.if_icmp .eq 37, 3) := by decide +kernel
theorem d1_18 : decode prog_145_method_28_code 18 = .ok (.iload_n 0, 1) := by decide +kernel
theorem d1_19 : decode prog_145_method_28_code 19 = .ok (.bipush 32, 2) := by decide +kernel
theorem d1_21 : decode prog_145_method_28_code 21 = .ok (.if_icmp .lt 10, 3) := by decide +kernel
theorem d1_24 : decode prog_145_method_28_code 24 = .ok (.iload_n 0, 1) := by decide +kernel
theorem d1_25 : decode prog_145_method_28_code 25 = .ok (.ldc_w 389, 3) := by decide +kernel
theorem d1_28 : decode prog_145_method_28_code 28 = .ok (.if_icmp .le 24, 3) := by decide +kernel
theorem d1_31 : decode prog_145_method_28_code 31 = .ok (.iload_n 0, 1) := by decide +kernel
theorem d1_32 : decode prog_145_method_28_code 32 = .ok (.ldc_w 390, 3) := by decide +kernel
theorem d1_35 : decode prog_145_method_28_code 35 = .ok (.if_icmp .lt 10, 3) := by decide +kernel
theorem d1_38 : decode prog_145_method_28_code 38 = .ok (.iload_n 0, 1) := by decide +kernel
theorem d1_39 : decode prog_145_method_28_code 39 = .ok (.ldc_w 391, 3) := by decide +kernel
theorem d1_42 : decode prog_145_method_28_code 42 = .ok (.if_icmp .le 10, 3) := by decide +kernel
theorem d1_45 : decode prog_145_method_28_code 45 = .ok (.iload_n 0, 1) := by decide +kernel
theorem d1_46 : decode prog_145_method_28_code 46 = .ok (.ldc_w 392, 3) := by decide +kernel
theorem d1_49 : decode prog_145_method_28_code 49 = .ok (.if_icmp .lt 7, 3) := by decide +kernel
theorem d1_52 : decode prog_145_method_28_code 52 = .ok (.iconst 1, 1) := by decide +kernel
theorem d1_53 : decode prog_145_method_28_code 53 = .ok (.goto 4, 3) := by decide +kernel
theorem d1_56 : decode prog_145_method_28_code 56 = .ok (.iconst 0, 1) := by decide +kernel
theorem d1_57 : decode prog_145_method_28_code 57 = .ok (.ireturn, 1) := by decide +kernel
theorem own_pn0 : plainName "com/example/tillbridge/tillbridge/codec/FlatXmlReader" = true := by first | (simp [plainName, overriddenIn]; done) | decide +kernel
theorem own_ef1 (m : MethodId) (p1 : Int32) : entryFrame m #[(.int p1)] 1 = mkF m 0 #[.val (.int p1)] [] := by first | (simp [entryFrame, mkF, argsToLocals, Value.category]; done) | rfl
def Q_own_isxml (Z : State) (p1 : Int32) (h0 : Heap) (n0 : Nat)  : Option Value → Heap → List Loc → Prop := fun v h L => v = some (.int (own_xc p1)) ∧ Fr n0 L ∧ h = h0
set_option maxRecDepth 65536 in
set_option maxHeartbeats 40000000 in
theorem own_isxml (l : Launch) (Z : State) (a0 : Array Value) (hw : ∀ d ∈ tables_1, d.before a0 Z = true)  (p1 : Int32) (h0 : Heap) (n0 : Nat)  (Z0 : n0 ≤ h0.size)  :
    ownMet l Z (⟨"com/example/tillbridge/tillbridge/codec/FlatXmlReader", "isXmlCharacter", "(I)Z"⟩ : MethodName) prog_145_method_28_code 1 (some .boolean) [] ({ frames := 0, cells := 0, slots := 0, locals := 0 } : Room) #[(.int p1)] h0 (Q_own_isxml Z p1 h0 n0 ) := by
  refine ownBody (plainFor_of_name own_pn0) ?_
  intro p e s m below meth c T0 hx hby hml hret hlk hZ hown hnm X0 e0
  have N0 : Fr n0 [] := Fr.nil n0
  refine ownVia (fun _ k => castTop (own_ef1 m p1) k) ?_
  show ownFin _ _ _ _ _ (T0.setTop (mkF m 0 #[.val (.int p1)] []))
  refine ownVia (fun _ k => XS.iloadN X0.here hx rfl (hb hby d1_0) rfl k) ?_
  show ownFin _ _ _ _ _ (T0.setTop (mkF m 1 #[.val (.int p1)] [(.int p1)]))
  refine ownVia (fun _ k => XS.bipush X0.here hx rfl (hb hby d1_1) k) ?_
  show ownFin _ _ _ _ _ (T0.setTop (mkF m 3 #[.val (.int p1)] [(.int (9 : Int32)), (.int p1)]))
  by_cases hc2 : p1 = (9 : Int32)
  case pos =>
    have hc2I : p1.toInt = 9 := (own_eqi rfl (by decide)).mp hc2
    refine ownVia (fun _ k => XS.icmpYes X0.here hx rfl (pc0 := 3) (pc' := 52) rfl (hb hby d1_3) rfl (teq hc2).1 (by decide) (by decide) k) ?_
    show ownFin _ _ _ _ _ (T0.setTop (mkF m 52 #[.val (.int p1)] []))
    refine ownVia (fun _ k => XS.iconst X0.here hx rfl (hb hby d1_52) k) ?_
    show ownFin _ _ _ _ _ (T0.setTop (mkF m 53 #[.val (.int p1)] [(.int (1 : Int32))]))
    refine ownVia (fun _ k => XS.goto X0.here hx rfl (pc0 := 53) (pc' := 57) rfl (hb hby d1_53) (by decide) (by decide) k) ?_
    show ownFin _ _ _ _ _ (T0.setTop (mkF m 57 #[.val (.int p1)] [(.int (1 : Int32))]))
    refine ownRetZ X0 hx hlk hret (hb hby d1_57) (by decide) (by decide) (Or.inr rfl) ?_
    show (Q_own_isxml Z p1 h0 n0 ) (some (.int (1 : Int32))) T0.heap _
    rw [e0]
    exact ⟨by rw [own_xc1 (by omega)], N0, rfl⟩
  case neg =>
    have hc2I : ¬ p1.toInt = 9 := fun q => hc2 ((own_eqi rfl (by decide)).mpr q)
    refine ownVia (fun _ k => XS.icmpNo X0.here hx rfl (hb hby d1_3) rfl (feq hc2).1 k) ?_
    show ownFin _ _ _ _ _ (T0.setTop (mkF m 6 #[.val (.int p1)] []))
    refine ownVia (fun _ k => XS.iloadN X0.here hx rfl (hb hby d1_6) rfl k) ?_
    show ownFin _ _ _ _ _ (T0.setTop (mkF m 7 #[.val (.int p1)] [(.int p1)]))
    refine ownVia (fun _ k => XS.bipush X0.here hx rfl (hb hby d1_7) k) ?_
    show ownFin _ _ _ _ _ (T0.setTop (mkF m 9 #[.val (.int p1)] [(.int (10 : Int32)), (.int p1)]))
    by_cases hc3 : p1 = (10 : Int32)
    case pos =>
      have hc3I : p1.toInt = 10 := (own_eqi rfl (by decide)).mp hc3
      refine ownVia (fun _ k => XS.icmpYes X0.here hx rfl (pc0 := 9) (pc' := 52) rfl (hb hby d1_9) rfl (teq hc3).1 (by decide) (by decide) k) ?_
      show ownFin _ _ _ _ _ (T0.setTop (mkF m 52 #[.val (.int p1)] []))
      refine ownVia (fun _ k => XS.iconst X0.here hx rfl (hb hby d1_52) k) ?_
      show ownFin _ _ _ _ _ (T0.setTop (mkF m 53 #[.val (.int p1)] [(.int (1 : Int32))]))
      refine ownVia (fun _ k => XS.goto X0.here hx rfl (pc0 := 53) (pc' := 57) rfl (hb hby d1_53) (by decide) (by decide) k) ?_
      show ownFin _ _ _ _ _ (T0.setTop (mkF m 57 #[.val (.int p1)] [(.int (1 : Int32))]))
      refine ownRetZ X0 hx hlk hret (hb hby d1_57) (by decide) (by decide) (Or.inr rfl) ?_
      show (Q_own_isxml Z p1 h0 n0 ) (some (.int (1 : Int32))) T0.heap _
      rw [e0]
      exact ⟨by rw [own_xc1 (by omega)], N0, rfl⟩
    case neg =>
      have hc3I : ¬ p1.toInt = 10 := fun q => hc3 ((own_eqi rfl (by decide)).mpr q)
      refine ownVia (fun _ k => XS.icmpNo X0.here hx rfl (hb hby d1_9) rfl (feq hc3).1 k) ?_
      show ownFin _ _ _ _ _ (T0.setTop (mkF m 12 #[.val (.int p1)] []))
      refine ownVia (fun _ k => XS.iloadN X0.here hx rfl (hb hby d1_12) rfl k) ?_
      show ownFin _ _ _ _ _ (T0.setTop (mkF m 13 #[.val (.int p1)] [(.int p1)]))
      refine ownVia (fun _ k => XS.bipush X0.here hx rfl (hb hby d1_13) k) ?_
      show ownFin _ _ _ _ _ (T0.setTop (mkF m 15 #[.val (.int p1)] [(.int (13 : Int32)), (.int p1)]))
      by_cases hc4 : p1 = (13 : Int32)
      case pos =>
        have hc4I : p1.toInt = 13 := (own_eqi rfl (by decide)).mp hc4
        refine ownVia (fun _ k => XS.icmpYes X0.here hx rfl (pc0 := 15) (pc' := 52) rfl (hb hby d1_15) rfl (teq hc4).1 (by decide) (by decide) k) ?_
        show ownFin _ _ _ _ _ (T0.setTop (mkF m 52 #[.val (.int p1)] []))
        refine ownVia (fun _ k => XS.iconst X0.here hx rfl (hb hby d1_52) k) ?_
        show ownFin _ _ _ _ _ (T0.setTop (mkF m 53 #[.val (.int p1)] [(.int (1 : Int32))]))
        refine ownVia (fun _ k => XS.goto X0.here hx rfl (pc0 := 53) (pc' := 57) rfl (hb hby d1_53) (by decide) (by decide) k) ?_
        show ownFin _ _ _ _ _ (T0.setTop (mkF m 57 #[.val (.int p1)] [(.int (1 : Int32))]))
        refine ownRetZ X0 hx hlk hret (hb hby d1_57) (by decide) (by decide) (Or.inr rfl) ?_
        show (Q_own_isxml Z p1 h0 n0 ) (some (.int (1 : Int32))) T0.heap _
        rw [e0]
        exact ⟨by rw [own_xc1 (by omega)], N0, rfl⟩
      case neg =>
        have hc4I : ¬ p1.toInt = 13 := fun q => hc4 ((own_eqi rfl (by decide)).mpr q)
        refine ownVia (fun _ k => XS.icmpNo X0.here hx rfl (hb hby d1_15) rfl (feq hc4).1 k) ?_
        show ownFin _ _ _ _ _ (T0.setTop (mkF m 18 #[.val (.int p1)] []))
        refine ownVia (fun _ k => XS.iloadN X0.here hx rfl (hb hby d1_18) rfl k) ?_
        show ownFin _ _ _ _ _ (T0.setTop (mkF m 19 #[.val (.int p1)] [(.int p1)]))
        refine ownVia (fun _ k => XS.bipush X0.here hx rfl (hb hby d1_19) k) ?_
        show ownFin _ _ _ _ _ (T0.setTop (mkF m 21 #[.val (.int p1)] [(.int (32 : Int32)), (.int p1)]))
        by_cases hc5 : p1 < (32 : Int32)
        case pos =>
          have hc5I : p1.toInt < 32 := (own_lti rfl (by decide)).mp hc5
          refine ownVia (fun _ k => XS.icmpYes X0.here hx rfl (pc0 := 21) (pc' := 31) rfl (hb hby d1_21) rfl (tlt hc5).1 (by decide) (by decide) k) ?_
          show ownFin _ _ _ _ _ (T0.setTop (mkF m 31 #[.val (.int p1)] []))
          refine ownVia (fun _ k => XS.iloadN X0.here hx rfl (hb hby d1_31) rfl k) ?_
          show ownFin _ _ _ _ _ (T0.setTop (mkF m 32 #[.val (.int p1)] [(.int p1)]))
          refine ownVia (fun _ k => X0.ldcwInt hx hown (mvT hZ (hw _ (List.mem_of_getElem? (i := 11) rfl))) (g := (mkF m 32 #[.val (.int p1)] [(.int p1)])) rfl (hb hby d1_32) _ k) ?_
          show ownFin _ _ _ _ _ (T0.setTop (mkF m 35 #[.val (.int p1)] [(.int (57344 : Int32)), (.int p1)]))
          by_cases hc6 : p1 < (57344 : Int32)
          case pos =>
            have hc6I : p1.toInt < 57344 := (own_lti rfl (by decide)).mp hc6
            refine ownVia (fun _ k => XS.icmpYes X0.here hx rfl (pc0 := 35) (pc' := 45) rfl (hb hby d1_35) rfl (tlt hc6).1 (by decide) (by decide) k) ?_
            show ownFin _ _ _ _ _ (T0.setTop (mkF m 45 #[.val (.int p1)] []))
            refine ownVia (fun _ k => XS.iloadN X0.here hx rfl (hb hby d1_45) rfl k) ?_
            show ownFin _ _ _ _ _ (T0.setTop (mkF m 46 #[.val (.int p1)] [(.int p1)]))
            refine ownVia (fun _ k => X0.ldcwInt hx hown (mvT hZ (hw _ (List.mem_of_getElem? (i := 12) rfl))) (g := (mkF m 46 #[.val (.int p1)] [(.int p1)])) rfl (hb hby d1_46) _ k) ?_
            show ownFin _ _ _ _ _ (T0.setTop (mkF m 49 #[.val (.int p1)] [(.int (65536 : Int32)), (.int p1)]))
            by_cases hc7 : p1 < (65536 : Int32)
            case pos =>
              have hc7I : p1.toInt < 65536 := (own_lti rfl (by decide)).mp hc7
              refine ownVia (fun _ k => XS.icmpYes X0.here hx rfl (pc0 := 49) (pc' := 56) rfl (hb hby d1_49) rfl (tlt hc7).1 (by decide) (by decide) k) ?_
              show ownFin _ _ _ _ _ (T0.setTop (mkF m 56 #[.val (.int p1)] []))
              refine ownVia (fun _ k => XS.iconst X0.here hx rfl (hb hby d1_56) k) ?_
              show ownFin _ _ _ _ _ (T0.setTop (mkF m 57 #[.val (.int p1)] [(.int (0 : Int32))]))
              refine ownRetZ X0 hx hlk hret (hb hby d1_57) (by decide) (by decide) (Or.inl rfl) ?_
              show (Q_own_isxml Z p1 h0 n0 ) (some (.int (0 : Int32))) T0.heap _
              rw [e0]
              exact ⟨by rw [own_xc0 (by omega)], N0, rfl⟩
            case neg =>
              have hc7I : ¬ p1.toInt < 65536 := fun q => hc7 ((own_lti rfl (by decide)).mpr q)
              refine ownVia (fun _ k => XS.icmpNo X0.here hx rfl (hb hby d1_49) rfl (flt hc7).1 k) ?_
              show ownFin _ _ _ _ _ (T0.setTop (mkF m 52 #[.val (.int p1)] []))
              refine ownVia (fun _ k => XS.iconst X0.here hx rfl (hb hby d1_52) k) ?_
              show ownFin _ _ _ _ _ (T0.setTop (mkF m 53 #[.val (.int p1)] [(.int (1 : Int32))]))
              refine ownVia (fun _ k => XS.goto X0.here hx rfl (pc0 := 53) (pc' := 57) rfl (hb hby d1_53) (by decide) (by decide) k) ?_
              show ownFin _ _ _ _ _ (T0.setTop (mkF m 57 #[.val (.int p1)] [(.int (1 : Int32))]))
              refine ownRetZ X0 hx hlk hret (hb hby d1_57) (by decide) (by decide) (Or.inr rfl) ?_
              show (Q_own_isxml Z p1 h0 n0 ) (some (.int (1 : Int32))) T0.heap _
              rw [e0]
              exact ⟨by rw [own_xc1 (by omega)], N0, rfl⟩
          case neg =>
            have hc6I : ¬ p1.toInt < 57344 := fun q => hc6 ((own_lti rfl (by decide)).mpr q)
            refine ownVia (fun _ k => XS.icmpNo X0.here hx rfl (hb hby d1_35) rfl (flt hc6).1 k) ?_
            show ownFin _ _ _ _ _ (T0.setTop (mkF m 38 #[.val (.int p1)] []))
            refine ownVia (fun _ k => XS.iloadN X0.here hx rfl (hb hby d1_38) rfl k) ?_
            show ownFin _ _ _ _ _ (T0.setTop (mkF m 39 #[.val (.int p1)] [(.int p1)]))
            refine ownVia (fun _ k => X0.ldcwInt hx hown (mvT hZ (hw _ (List.mem_of_getElem? (i := 17) rfl))) (g := (mkF m 39 #[.val (.int p1)] [(.int p1)])) rfl (hb hby d1_39) _ k) ?_
            show ownFin _ _ _ _ _ (T0.setTop (mkF m 42 #[.val (.int p1)] [(.int (65533 : Int32)), (.int p1)]))
            by_cases hc8 : (65533 : Int32) < p1
            case pos =>
              have hc8I : 65533 < p1.toInt := (own_lti (by decide) rfl).mp hc8
              refine ownVia (fun _ k => XS.icmpNo X0.here hx rfl (hb hby d1_42) rfl (tlt hc8).2.2.2 k) ?_
              show ownFin _ _ _ _ _ (T0.setTop (mkF m 45 #[.val (.int p1)] []))
              refine ownVia (fun _ k => XS.iloadN X0.here hx rfl (hb hby d1_45) rfl k) ?_
              show ownFin _ _ _ _ _ (T0.setTop (mkF m 46 #[.val (.int p1)] [(.int p1)]))
              refine ownVia (fun _ k => X0.ldcwInt hx hown (mvT hZ (hw _ (List.mem_of_getElem? (i := 12) rfl))) (g := (mkF m 46 #[.val (.int p1)] [(.int p1)])) rfl (hb hby d1_46) _ k) ?_
              show ownFin _ _ _ _ _ (T0.setTop (mkF m 49 #[.val (.int p1)] [(.int (65536 : Int32)), (.int p1)]))
              by_cases hc9 : p1 < (65536 : Int32)
              case pos =>
                have hc9I : p1.toInt < 65536 := (own_lti rfl (by decide)).mp hc9
                refine ownVia (fun _ k => XS.icmpYes X0.here hx rfl (pc0 := 49) (pc' := 56) rfl (hb hby d1_49) rfl (tlt hc9).1 (by decide) (by decide) k) ?_
                show ownFin _ _ _ _ _ (T0.setTop (mkF m 56 #[.val (.int p1)] []))
                refine ownVia (fun _ k => XS.iconst X0.here hx rfl (hb hby d1_56) k) ?_
                show ownFin _ _ _ _ _ (T0.setTop (mkF m 57 #[.val (.int p1)] [(.int (0 : Int32))]))
                refine ownRetZ X0 hx hlk hret (hb hby d1_57) (by decide) (by decide) (Or.inl rfl) ?_
                show (Q_own_isxml Z p1 h0 n0 ) (some (.int (0 : Int32))) T0.heap _
                rw [e0]
                exact ⟨by rw [own_xc0 (by omega)], N0, rfl⟩
              case neg =>
                have hc9I : ¬ p1.toInt < 65536 := fun q => hc9 ((own_lti rfl (by decide)).mpr q)
                refine ownVia (fun _ k => XS.icmpNo X0.here hx rfl (hb hby d1_49) rfl (flt hc9).1 k) ?_
                show ownFin _ _ _ _ _ (T0.setTop (mkF m 52 #[.val (.int p1)] []))
                refine ownVia (fun _ k => XS.iconst X0.here hx rfl (hb hby d1_52) k) ?_
                show ownFin _ _ _ _ _ (T0.setTop (mkF m 53 #[.val (.int p1)] [(.int (1 : Int32))]))
                refine ownVia (fun _ k => XS.goto X0.here hx rfl (pc0 := 53) (pc' := 57) rfl (hb hby d1_53) (by decide) (by decide) k) ?_
                show ownFin _ _ _ _ _ (T0.setTop (mkF m 57 #[.val (.int p1)] [(.int (1 : Int32))]))
                refine ownRetZ X0 hx hlk hret (hb hby d1_57) (by decide) (by decide) (Or.inr rfl) ?_
                show (Q_own_isxml Z p1 h0 n0 ) (some (.int (1 : Int32))) T0.heap _
                rw [e0]
                exact ⟨by rw [own_xc1 (by omega)], N0, rfl⟩
            case neg =>
              have hc8I : ¬ 65533 < p1.toInt := fun q => hc8 ((own_lti (by decide) rfl).mpr q)
              refine ownVia (fun _ k => XS.icmpYes X0.here hx rfl (pc0 := 42) (pc' := 52) rfl (hb hby d1_42) rfl (flt hc8).2.2.2 (by decide) (by decide) k) ?_
              show ownFin _ _ _ _ _ (T0.setTop (mkF m 52 #[.val (.int p1)] []))
              refine ownVia (fun _ k => XS.iconst X0.here hx rfl (hb hby d1_52) k) ?_
              show ownFin _ _ _ _ _ (T0.setTop (mkF m 53 #[.val (.int p1)] [(.int (1 : Int32))]))
              refine ownVia (fun _ k => XS.goto X0.here hx rfl (pc0 := 53) (pc' := 57) rfl (hb hby d1_53) (by decide) (by decide) k) ?_
              show ownFin _ _ _ _ _ (T0.setTop (mkF m 57 #[.val (.int p1)] [(.int (1 : Int32))]))
              refine ownRetZ X0 hx hlk hret (hb hby d1_57) (by decide) (by decide) (Or.inr rfl) ?_
              show (Q_own_isxml Z p1 h0 n0 ) (some (.int (1 : Int32))) T0.heap _
              rw [e0]
              exact ⟨by rw [own_xc1 (by omega)], N0, rfl⟩
        case neg =>
          have hc5I : ¬ p1.toInt < 32 := fun q => hc5 ((own_lti rfl (by decide)).mpr q)
          refine ownVia (fun _ k => XS.icmpNo X0.here hx rfl (hb hby d1_21) rfl (flt hc5).1 k) ?_
          show ownFin _ _ _ _ _ (T0.setTop (mkF m 24 #[.val (.int p1)] []))
          refine ownVia (fun _ k => XS.iloadN X0.here hx rfl (hb hby d1_24) rfl k) ?_
          show ownFin _ _ _ _ _ (T0.setTop (mkF m 25 #[.val (.int p1)] [(.int p1)]))
          refine ownVia (fun _ k => X0.ldcwInt hx hown (mvT hZ (hw _ (List.mem_of_getElem? (i := 16) rfl))) (g := (mkF m 25 #[.val (.int p1)] [(.int p1)])) rfl (hb hby d1_25) _ k) ?_
          show ownFin _ _ _ _ _ (T0.setTop (mkF m 28 #[.val (.int p1)] [(.int (55295 : Int32)), (.int p1)]))
          by_cases hc10 : (55295 : Int32) < p1
          case pos =>
            have hc10I : 55295 < p1.toInt := (own_lti (by decide) rfl).mp hc10
            refine ownVia (fun _ k => XS.icmpNo X0.here hx rfl (hb hby d1_28) rfl (tlt hc10).2.2.2 k) ?_
            show ownFin _ _ _ _ _ (T0.setTop (mkF m 31 #[.val (.int p1)] []))
            refine ownVia (fun _ k => XS.iloadN X0.here hx rfl (hb hby d1_31) rfl k) ?_
            show ownFin _ _ _ _ _ (T0.setTop (mkF m 32 #[.val (.int p1)] [(.int p1)]))
            refine ownVia (fun _ k => X0.ldcwInt hx hown (mvT hZ (hw _ (List.mem_of_getElem? (i := 11) rfl))) (g := (mkF m 32 #[.val (.int p1)] [(.int p1)])) rfl (hb hby d1_32) _ k) ?_
            show ownFin _ _ _ _ _ (T0.setTop (mkF m 35 #[.val (.int p1)] [(.int (57344 : Int32)), (.int p1)]))
            by_cases hc11 : p1 < (57344 : Int32)
            case pos =>
              have hc11I : p1.toInt < 57344 := (own_lti rfl (by decide)).mp hc11
              refine ownVia (fun _ k => XS.icmpYes X0.here hx rfl (pc0 := 35) (pc' := 45) rfl (hb hby d1_35) rfl (tlt hc11).1 (by decide) (by decide) k) ?_
              show ownFin _ _ _ _ _ (T0.setTop (mkF m 45 #[.val (.int p1)] []))
              refine ownVia (fun _ k => XS.iloadN X0.here hx rfl (hb hby d1_45) rfl k) ?_
              show ownFin _ _ _ _ _ (T0.setTop (mkF m 46 #[.val (.int p1)] [(.int p1)]))
              refine ownVia (fun _ k => X0.ldcwInt hx hown (mvT hZ (hw _ (List.mem_of_getElem? (i := 12) rfl))) (g := (mkF m 46 #[.val (.int p1)] [(.int p1)])) rfl (hb hby d1_46) _ k) ?_
              show ownFin _ _ _ _ _ (T0.setTop (mkF m 49 #[.val (.int p1)] [(.int (65536 : Int32)), (.int p1)]))
              by_cases hc12 : p1 < (65536 : Int32)
              case pos =>
                have hc12I : p1.toInt < 65536 := (own_lti rfl (by decide)).mp hc12
                refine ownVia (fun _ k => XS.icmpYes X0.here hx rfl (pc0 := 49) (pc' := 56) rfl (hb hby d1_49) rfl (tlt hc12).1 (by decide) (by decide) k) ?_
                show ownFin _ _ _ _ _ (T0.setTop (mkF m 56 #[.val (.int p1)] []))
                refine ownVia (fun _ k => XS.iconst X0.here hx rfl (hb hby d1_56) k) ?_
                show ownFin _ _ _ _ _ (T0.setTop (mkF m 57 #[.val (.int p1)] [(.int (0 : Int32))]))
                refine ownRetZ X0 hx hlk hret (hb hby d1_57) (by decide) (by decide) (Or.inl rfl) ?_
                show (Q_own_isxml Z p1 h0 n0 ) (some (.int (0 : Int32))) T0.heap _
                rw [e0]
                exact ⟨by rw [own_xc0 (by omega)], N0, rfl⟩
              case neg =>
                have hc12I : ¬ p1.toInt < 65536 := fun q => hc12 ((own_lti rfl (by decide)).mpr q)
                refine ownVia (fun _ k => XS.icmpNo X0.here hx rfl (hb hby d1_49) rfl (flt hc12).1 k) ?_
                show ownFin _ _ _ _ _ (T0.setTop (mkF m 52 #[.val (.int p1)] []))
                refine ownVia (fun _ k => XS.iconst X0.here hx rfl (hb hby d1_52) k) ?_
                show ownFin _ _ _ _ _ (T0.setTop (mkF m 53 #[.val (.int p1)] [(.int (1 : Int32))]))
                refine ownVia (fun _ k => XS.goto X0.here hx rfl (pc0 := 53) (pc' := 57) rfl (hb hby d1_53) (by decide) (by decide) k) ?_
                show ownFin _ _ _ _ _ (T0.setTop (mkF m 57 #[.val (.int p1)] [(.int (1 : Int32))]))
                refine ownRetZ X0 hx hlk hret (hb hby d1_57) (by decide) (by decide) (Or.inr rfl) ?_
                show (Q_own_isxml Z p1 h0 n0 ) (some (.int (1 : Int32))) T0.heap _
                rw [e0]
                exact ⟨by rw [own_xc1 (by omega)], N0, rfl⟩
            case neg =>
              have hc11I : ¬ p1.toInt < 57344 := fun q => hc11 ((own_lti rfl (by decide)).mpr q)
              refine ownVia (fun _ k => XS.icmpNo X0.here hx rfl (hb hby d1_35) rfl (flt hc11).1 k) ?_
              show ownFin _ _ _ _ _ (T0.setTop (mkF m 38 #[.val (.int p1)] []))
              refine ownVia (fun _ k => XS.iloadN X0.here hx rfl (hb hby d1_38) rfl k) ?_
              show ownFin _ _ _ _ _ (T0.setTop (mkF m 39 #[.val (.int p1)] [(.int p1)]))
              refine ownVia (fun _ k => X0.ldcwInt hx hown (mvT hZ (hw _ (List.mem_of_getElem? (i := 17) rfl))) (g := (mkF m 39 #[.val (.int p1)] [(.int p1)])) rfl (hb hby d1_39) _ k) ?_
              show ownFin _ _ _ _ _ (T0.setTop (mkF m 42 #[.val (.int p1)] [(.int (65533 : Int32)), (.int p1)]))
              by_cases hc13 : (65533 : Int32) < p1
              case pos =>
                have hc13I : 65533 < p1.toInt := (own_lti (by decide) rfl).mp hc13
                refine ownVia (fun _ k => XS.icmpNo X0.here hx rfl (hb hby d1_42) rfl (tlt hc13).2.2.2 k) ?_
                show ownFin _ _ _ _ _ (T0.setTop (mkF m 45 #[.val (.int p1)] []))
                refine ownVia (fun _ k => XS.iloadN X0.here hx rfl (hb hby d1_45) rfl k) ?_
                show ownFin _ _ _ _ _ (T0.setTop (mkF m 46 #[.val (.int p1)] [(.int p1)]))
                refine ownVia (fun _ k => X0.ldcwInt hx hown (mvT hZ (hw _ (List.mem_of_getElem? (i := 12) rfl))) (g := (mkF m 46 #[.val (.int p1)] [(.int p1)])) rfl (hb hby d1_46) _ k) ?_
                show ownFin _ _ _ _ _ (T0.setTop (mkF m 49 #[.val (.int p1)] [(.int (65536 : Int32)), (.int p1)]))
                by_cases hc14 : p1 < (65536 : Int32)
                case pos =>
                  have hc14I : p1.toInt < 65536 := (own_lti rfl (by decide)).mp hc14
                  refine ownVia (fun _ k => XS.icmpYes X0.here hx rfl (pc0 := 49) (pc' := 56) rfl (hb hby d1_49) rfl (tlt hc14).1 (by decide) (by decide) k) ?_
                  show ownFin _ _ _ _ _ (T0.setTop (mkF m 56 #[.val (.int p1)] []))
                  refine ownVia (fun _ k => XS.iconst X0.here hx rfl (hb hby d1_56) k) ?_
                  show ownFin _ _ _ _ _ (T0.setTop (mkF m 57 #[.val (.int p1)] [(.int (0 : Int32))]))
                  refine ownRetZ X0 hx hlk hret (hb hby d1_57) (by decide) (by decide) (Or.inl rfl) ?_
                  show (Q_own_isxml Z p1 h0 n0 ) (some (.int (0 : Int32))) T0.heap _
                  rw [e0]
                  exact ⟨by rw [own_xc0 (by omega)], N0, rfl⟩
                case neg =>
                  have hc14I : ¬ p1.toInt < 65536 := fun q => hc14 ((own_lti rfl (by decide)).mpr q)
                  refine ownVia (fun _ k => XS.icmpNo X0.here hx rfl (hb hby d1_49) rfl (flt hc14).1 k) ?_
                  show ownFin _ _ _ _ _ (T0.setTop (mkF m 52 #[.val (.int p1)] []))
                  refine ownVia (fun _ k => XS.iconst X0.here hx rfl (hb hby d1_52) k) ?_
                  show ownFin _ _ _ _ _ (T0.setTop (mkF m 53 #[.val (.int p1)] [(.int (1 : Int32))]))
                  refine ownVia (fun _ k => XS.goto X0.here hx rfl (pc0 := 53) (pc' := 57) rfl (hb hby d1_53) (by decide) (by decide) k) ?_
                  show ownFin _ _ _ _ _ (T0.setTop (mkF m 57 #[.val (.int p1)] [(.int (1 : Int32))]))
                  refine ownRetZ X0 hx hlk hret (hb hby d1_57) (by decide) (by decide) (Or.inr rfl) ?_
                  show (Q_own_isxml Z p1 h0 n0 ) (some (.int (1 : Int32))) T0.heap _
                  rw [e0]
                  exact ⟨by rw [own_xc1 (by omega)], N0, rfl⟩
              case neg =>
                have hc13I : ¬ 65533 < p1.toInt := fun q => hc13 ((own_lti (by decide) rfl).mpr q)
                refine ownVia (fun _ k => XS.icmpYes X0.here hx rfl (pc0 := 42) (pc' := 52) rfl (hb hby d1_42) rfl (flt hc13).2.2.2 (by decide) (by decide) k) ?_
                show ownFin _ _ _ _ _ (T0.setTop (mkF m 52 #[.val (.int p1)] []))
                refine ownVia (fun _ k => XS.iconst X0.here hx rfl (hb hby d1_52) k) ?_
                show ownFin _ _ _ _ _ (T0.setTop (mkF m 53 #[.val (.int p1)] [(.int (1 : Int32))]))
                refine ownVia (fun _ k => XS.goto X0.here hx rfl (pc0 := 53) (pc' := 57) rfl (hb hby d1_53) (by decide) (by decide) k) ?_
                show ownFin _ _ _ _ _ (T0.setTop (mkF m 57 #[.val (.int p1)] [(.int (1 : Int32))]))
                refine ownRetZ X0 hx hlk hret (hb hby d1_57) (by decide) (by decide) (Or.inr rfl) ?_
                show (Q_own_isxml Z p1 h0 n0 ) (some (.int (1 : Int32))) T0.heap _
                rw [e0]
                exact ⟨by rw [own_xc1 (by omega)], N0, rfl⟩
          case neg =>
            have hc10I : ¬ 55295 < p1.toInt := fun q => hc10 ((own_lti (by decide) rfl).mpr q)
            refine ownVia (fun _ k => XS.icmpYes X0.here hx rfl (pc0 := 28) (pc' := 52) rfl (hb hby d1_28) rfl (flt hc10).2.2.2 (by decide) (by decide) k) ?_
            show ownFin _ _ _ _ _ (T0.setTop (mkF m 52 #[.val (.int p1)] []))
            refine ownVia (fun _ k => XS.iconst X0.here hx rfl (hb hby d1_52) k) ?_
            show ownFin _ _ _ _ _ (T0.setTop (mkF m 53 #[.val (.int p1)] [(.int (1 : Int32))]))
            refine ownVia (fun _ k => XS.goto X0.here hx rfl (pc0 := 53) (pc' := 57) rfl (hb hby d1_53) (by decide) (by decide) k) ?_
            show ownFin _ _ _ _ _ (T0.setTop (mkF m 57 #[.val (.int p1)] [(.int (1 : Int32))]))
            refine ownRetZ X0 hx hlk hret (hb hby d1_57) (by decide) (by decide) (Or.inr rfl) ?_
            show (Q_own_isxml Z p1 h0 n0 ) (some (.int (1 : Int32))) T0.heap _
            rw [e0]
            exact ⟨by rw [own_xc1 (by omega)], N0, rfl⟩
theorem own_pn1 : plainName "com/example/tillbridge/tillbridge/codec/FlatXmlReaderIsXmlCharacterPinLaw" = true := by first | (simp [plainName, overriddenIn]; done) | decide +kernel
theorem own_ef15 (m : MethodId) (p1 : Int32) (p2 : Int32) : entryFrame m #[(.int p1), (.int p2)] maxLocals = mkF m 0 #[.val (.int p1), .val (.int p2), .unset, .unset, .unset, .unset] [] := by first | (simp [entryFrame, mkF, argsToLocals, Value.category, maxLocals]; done) | rfl
def Q_own_law (Z : State) (p1 : Int32) (p2 : Int32) (h0 : Heap) (n0 : Nat)  : Option Value → Heap → List Loc → Prop := fun v h L => v = some (.int 1) ∧ Fr n0 L
theorem own_pd0 : parseMethodDescriptor "(I)Z" = some ⟨[.int], some .boolean⟩ := by decide +kernel
set_option maxRecDepth 65536 in
set_option maxHeartbeats 40000000 in
theorem own_law (l : Launch) (Z : State) (a0 : Array Value) (hw : ∀ d ∈ tables_1, d.before a0 Z = true) (ws : List Jvm.Cond) (p1 : Int32) (p2 : Int32) (h0 : Heap) (n0 : Nat)  (Z0 : n0 ≤ h0.size)  :
    ownMet l Z x code maxLocals ret ws room_1 #[(.int p1), (.int p2)] h0 (Q_own_law Z p1 p2 h0 n0 ) := by
  refine ownBody (plainFor_of_name own_pn1) ?_
  intro p e s m below meth c T0 hx hby hml hret hlk hZ hown hnm X0 e0
  have N0 : Fr n0 [] := Fr.nil n0
  have hown : s.vm.findClass "com/example/tillbridge/tillbridge/codec/FlatXmlReaderIsXmlCharacterPinLaw" = some m.cls := hown
  refine ownVia (fun _ k => castTop (own_ef15 m p1 p2) k) ?_
  show ownFin _ _ _ _ _ (T0.setTop (mkF m 0 #[.val (.int p1), .val (.int p2), .unset, .unset, .unset, .unset] []))
  refine ownVia (fun _ k => XS.bipush X0.here hx rfl (hb hby at_0) k) ?_
  show ownFin _ _ _ _ _ (T0.setTop (mkF m 2 #[.val (.int p1), .val (.int p2), .unset, .unset, .unset, .unset] [(.int (12 : Int32))]))
  refine ownNewP X0 hx hZ (hw _ (List.mem_of_getElem? (i := 0) rfl)) e0 "[I" (by decide) (by decide) (12) (by decide) (12) (by decide) (by decide) (by decide) (by decide) (hb hby at_2) ?_
  intro T16 h16 k_b1 b1 g16 X16 e16 E16 A_b1 E_b1
  have ge_b1 : n0 ≤ b1 := Nat.le_trans Z0 (Nat.le_of_eq g16.symm)
  have Z0 := own_sz Z0 E16
  have A_b1 : Arv Z h16 b1 k_b1 .int (12 : Int32) [(.int (0 : Int32)), (.int (0 : Int32)), (.int (0 : Int32)), (.int (0 : Int32)), (.int (0 : Int32)), (.int (0 : Int32)), (.int (0 : Int32)), (.int (0 : Int32)), (.int (0 : Int32)), (.int (0 : Int32)), (.int (0 : Int32)), (.int (0 : Int32))] (.int (0 : Int32)) := A_b1
  show ownFin _ _ _ _ _ (T16.setTop (mkF m 4 #[.val (.int p1), .val (.int p2), .unset, .unset, .unset, .unset] [(.ref b1)]))
  refine ownVia (fun _ k => XS.dup X16.here hx rfl (hb hby at_4) rfl rfl k) ?_
  show ownFin _ _ _ _ _ (T16.setTop (mkF m 5 #[.val (.int p1), .val (.int p2), .unset, .unset, .unset, .unset] [(.ref b1), (.ref b1)]))
  refine ownVia (fun _ k => XS.iconst X16.here hx rfl (hb hby at_5) k) ?_
  show ownFin _ _ _ _ _ (T16.setTop (mkF m 6 #[.val (.int p1), .val (.int p2), .unset, .unset, .unset, .unset] [(.int (0 : Int32)), (.ref b1), (.ref b1)]))
  refine ownVia (fun _ k => X16.ldcInt hx hown (mvT hZ (hw _ (List.mem_of_getElem? (i := 1) rfl))) (g := (mkF m 6 #[.val (.int p1), .val (.int p2), .unset, .unset, .unset, .unset] [(.int (0 : Int32)), (.ref b1), (.ref b1)])) rfl (hb hby at_6) _ k) ?_
  show ownFin _ _ _ _ _ (T16.setTop (mkF m 8 #[.val (.int p1), .val (.int p2), .unset, .unset, .unset, .unset] [(.int (-2147483648 : Int32)), (.int (0 : Int32)), (.ref b1), (.ref b1)]))
  refine ownIastore X16 hx hZ e16 A_b1 ⟨by decide, by decide⟩ (0) (by decide) (Nat.le_of_ble_eq_true rfl) N0 ge_b1 (hb hby at_8) ?_
  intro T17 h17 L17 X17 e17 N17 W17 A_b1
  have E_b1 := E_b1.wr W17
  have Z0 := own_szW Z0 W17
  have A_b1 : Arv Z h17 b1 k_b1 .int (12 : Int32) [(.int (-2147483648 : Int32)), (.int (0 : Int32)), (.int (0 : Int32)), (.int (0 : Int32)), (.int (0 : Int32)), (.int (0 : Int32)), (.int (0 : Int32)), (.int (0 : Int32)), (.int (0 : Int32)), (.int (0 : Int32)), (.int (0 : Int32)), (.int (0 : Int32))] (.int (0 : Int32)) := A_b1
  show ownFin _ _ _ _ _ (T17.setTop (mkF m 9 #[.val (.int p1), .val (.int p2), .unset, .unset, .unset, .unset] [(.ref b1)]))
  refine ownVia (fun _ k => XS.dup X17.here hx rfl (hb hby at_9) rfl rfl k) ?_
  show ownFin _ _ _ _ _ (T17.setTop (mkF m 10 #[.val (.int p1), .val (.int p2), .unset, .unset, .unset, .unset] [(.ref b1), (.ref b1)]))
  refine ownVia (fun _ k => XS.iconst X17.here hx rfl (hb hby at_10) k) ?_
  show ownFin _ _ _ _ _ (T17.setTop (mkF m 11 #[.val (.int p1), .val (.int p2), .unset, .unset, .unset, .unset] [(.int (1 : Int32)), (.ref b1), (.ref b1)]))
  refine ownVia (fun _ k => XS.iconst X17.here hx rfl (hb hby at_11) k) ?_
  show ownFin _ _ _ _ _ (T17.setTop (mkF m 12 #[.val (.int p1), .val (.int p2), .unset, .unset, .unset, .unset] [(.int (-1 : Int32)), (.int (1 : Int32)), (.ref b1), (.ref b1)]))
  refine ownIastore X17 hx hZ e17 A_b1 ⟨by decide, by decide⟩ (1) (by decide) (Nat.le_of_ble_eq_true rfl) N17 ge_b1 (hb hby at_12) ?_
  intro T18 h18 L18 X18 e18 N18 W18 A_b1
  have E_b1 := E_b1.wr W18
  have Z0 := own_szW Z0 W18
  have A_b1 : Arv Z h18 b1 k_b1 .int (12 : Int32) [(.int (-2147483648 : Int32)), (.int (-1 : Int32)), (.int (0 : Int32)), (.int (0 : Int32)), (.int (0 : Int32)), (.int (0 : Int32)), (.int (0 : Int32)), (.int (0 : Int32)), (.int (0 : Int32)), (.int (0 : Int32)), (.int (0 : Int32)), (.int (0 : Int32))] (.int (0 : Int32)) := A_b1
  show ownFin _ _ _ _ _ (T18.setTop (mkF m 13 #[.val (.int p1), .val (.int p2), .unset, .unset, .unset, .unset] [(.ref b1)]))
  refine ownVia (fun _ k => XS.dup X18.here hx rfl (hb hby at_13) rfl rfl k) ?_
  show ownFin _ _ _ _ _ (T18.setTop (mkF m 14 #[.val (.int p1), .val (.int p2), .unset, .unset, .unset, .unset] [(.ref b1), (.ref b1)]))
  refine ownVia (fun _ k => XS.iconst X18.here hx rfl (hb hby at_14) k) ?_
  show ownFin _ _ _ _ _ (T18.setTop (mkF m 15 #[.val (.int p1), .val (.int p2), .unset, .unset, .unset, .unset] [(.int (2 : Int32)), (.ref b1), (.ref b1)]))
  refine ownVia (fun _ k => XS.iconst X18.here hx rfl (hb hby at_15) k) ?_
  show ownFin _ _ _ _ _ (T18.setTop (mkF m 16 #[.val (.int p1), .val (.int p2), .unset, .unset, .unset, .unset] [(.int (0 : Int32)), (.int (2 : Int32)), (.ref b1), (.ref b1)]))
  refine ownIastore X18 hx hZ e18 A_b1 ⟨by decide, by decide⟩ (2) (by decide) (Nat.le_of_ble_eq_true rfl) N18 ge_b1 (hb hby at_16) ?_
  intro T19 h19 L19 X19 e19 N19 W19 A_b1
  have E_b1 := E_b1.wr W19
  have Z0 := own_szW Z0 W19
  have A_b1 : Arv Z h19 b1 k_b1 .int (12 : Int32) [(.int (-2147483648 : Int32)), (.int (-1 : Int32)), (.int (0 : Int32)), (.int (0 : Int32)), (.int (0 : Int32)), (.int (0 : Int32)), (.int (0 : Int32)), (.int (0 : Int32)), (.int (0 : Int32)), (.int (0 : Int32)), (.int (0 : Int32)), (.int (0 : Int32))] (.int (0 : Int32)) := A_b1
  show ownFin _ _ _ _ _ (T19.setTop (mkF m 17 #[.val (.int p1), .val (.int p2), .unset, .unset, .unset, .unset] [(.ref b1)]))
  refine ownVia (fun _ k => XS.dup X19.here hx rfl (hb hby at_17) rfl rfl k) ?_
  show ownFin _ _ _ _ _ (T19.setTop (mkF m 18 #[.val (.int p1), .val (.int p2), .unset, .unset, .unset, .unset] [(.ref b1), (.ref b1)]))
  refine ownVia (fun _ k => XS.iconst X19.here hx rfl (hb hby at_18) k) ?_
  show ownFin _ _ _ _ _ (T19.setTop (mkF m 19 #[.val (.int p1), .val (.int p2), .unset, .unset, .unset, .unset] [(.int (3 : Int32)), (.ref b1), (.ref b1)]))
  refine ownVia (fun _ k => XS.bipush X19.here hx rfl (hb hby at_19) k) ?_
  show ownFin _ _ _ _ _ (T19.setTop (mkF m 21 #[.val (.int p1), .val (.int p2), .unset, .unset, .unset, .unset] [(.int (9 : Int32)), (.int (3 : Int32)), (.ref b1), (.ref b1)]))
  refine ownIastore X19 hx hZ e19 A_b1 ⟨by decide, by decide⟩ (3) (by decide) (Nat.le_of_ble_eq_true rfl) N19 ge_b1 (hb hby at_21) ?_
  intro T20 h20 L20 X20 e20 N20 W20 A_b1
  have E_b1 := E_b1.wr W20
  have Z0 := own_szW Z0 W20
  have A_b1 : Arv Z h20 b1 k_b1 .int (12 : Int32) [(.int (-2147483648 : Int32)), (.int (-1 : Int32)), (.int (0 : Int32)), (.int (9 : Int32)), (.int (0 : Int32)), (.int (0 : Int32)), (.int (0 : Int32)), (.int (0 : Int32)), (.int (0 : Int32)), (.int (0 : Int32)), (.int (0 : Int32)), (.int (0 : Int32))] (.int (0 : Int32)) := A_b1
  show ownFin _ _ _ _ _ (T20.setTop (mkF m 22 #[.val (.int p1), .val (.int p2), .unset, .unset, .unset, .unset] [(.ref b1)]))
  refine ownVia (fun _ k => XS.dup X20.here hx rfl (hb hby at_22) rfl rfl k) ?_
  show ownFin _ _ _ _ _ (T20.setTop (mkF m 23 #[.val (.int p1), .val (.int p2), .unset, .unset, .unset, .unset] [(.ref b1), (.ref b1)]))
  refine ownVia (fun _ k => XS.iconst X20.here hx rfl (hb hby at_23) k) ?_
  show ownFin _ _ _ _ _ (T20.setTop (mkF m 24 #[.val (.int p1), .val (.int p2), .unset, .unset, .unset, .unset] [(.int (4 : Int32)), (.ref b1), (.ref b1)]))
  refine ownVia (fun _ k => XS.bipush X20.here hx rfl (hb hby at_24) k) ?_
  show ownFin _ _ _ _ _ (T20.setTop (mkF m 26 #[.val (.int p1), .val (.int p2), .unset, .unset, .unset, .unset] [(.int (10 : Int32)), (.int (4 : Int32)), (.ref b1), (.ref b1)]))
  refine ownIastore X20 hx hZ e20 A_b1 ⟨by decide, by decide⟩ (4) (by decide) (Nat.le_of_ble_eq_true rfl) N20 ge_b1 (hb hby at_26) ?_
  intro T21 h21 L21 X21 e21 N21 W21 A_b1
  have E_b1 := E_b1.wr W21
  have Z0 := own_szW Z0 W21
  have A_b1 : Arv Z h21 b1 k_b1 .int (12 : Int32) [(.int (-2147483648 : Int32)), (.int (-1 : Int32)), (.int (0 : Int32)), (.int (9 : Int32)), (.int (10 : Int32)), (.int (0 : Int32)), (.int (0 : Int32)), (.int (0 : Int32)), (.int (0 : Int32)), (.int (0 : Int32)), (.int (0 : Int32)), (.int (0 : Int32))] (.int (0 : Int32)) := A_b1
  show ownFin _ _ _ _ _ (T21.setTop (mkF m 27 #[.val (.int p1), .val (.int p2), .unset, .unset, .unset, .unset] [(.ref b1)]))
  refine ownVia (fun _ k => XS.dup X21.here hx rfl (hb hby at_27) rfl rfl k) ?_
  show ownFin _ _ _ _ _ (T21.setTop (mkF m 28 #[.val (.int p1), .val (.int p2), .unset, .unset, .unset, .unset] [(.ref b1), (.ref b1)]))
  refine ownVia (fun _ k => XS.iconst X21.here hx rfl (hb hby at_28) k) ?_
  show ownFin _ _ _ _ _ (T21.setTop (mkF m 29 #[.val (.int p1), .val (.int p2), .unset, .unset, .unset, .unset] [(.int (5 : Int32)), (.ref b1), (.ref b1)]))
  refine ownVia (fun _ k => XS.bipush X21.here hx rfl (hb hby at_29) k) ?_
  show ownFin _ _ _ _ _ (T21.setTop (mkF m 31 #[.val (.int p1), .val (.int p2), .unset, .unset, .unset, .unset] [(.int (13 : Int32)), (.int (5 : Int32)), (.ref b1), (.ref b1)]))
  refine ownIastore X21 hx hZ e21 A_b1 ⟨by decide, by decide⟩ (5) (by decide) (Nat.le_of_ble_eq_true rfl) N21 ge_b1 (hb hby at_31) ?_
  intro T22 h22 L22 X22 e22 N22 W22 A_b1
  have E_b1 := E_b1.wr W22
  have Z0 := own_szW Z0 W22
  have A_b1 : Arv Z h22 b1 k_b1 .int (12 : Int32) [(.int (-2147483648 : Int32)), (.int (-1 : Int32)), (.int (0 : Int32)), (.int (9 : Int32)), (.int (10 : Int32)), (.int (13 : Int32)), (.int (0 : Int32)), (.int (0 : Int32)), (.int (0 : Int32)), (.int (0 : Int32)), (.int (0 : Int32)), (.int (0 : Int32))] (.int (0 : Int32)) := A_b1
  show ownFin _ _ _ _ _ (T22.setTop (mkF m 32 #[.val (.int p1), .val (.int p2), .unset, .unset, .unset, .unset] [(.ref b1)]))
  refine ownVia (fun _ k => XS.dup X22.here hx rfl (hb hby at_32) rfl rfl k) ?_
  show ownFin _ _ _ _ _ (T22.setTop (mkF m 33 #[.val (.int p1), .val (.int p2), .unset, .unset, .unset, .unset] [(.ref b1), (.ref b1)]))
  refine ownVia (fun _ k => XS.bipush X22.here hx rfl (hb hby at_33) k) ?_
  show ownFin _ _ _ _ _ (T22.setTop (mkF m 35 #[.val (.int p1), .val (.int p2), .unset, .unset, .unset, .unset] [(.int (6 : Int32)), (.ref b1), (.ref b1)]))
  refine ownVia (fun _ k => XS.bipush X22.here hx rfl (hb hby at_35) k) ?_
  show ownFin _ _ _ _ _ (T22.setTop (mkF m 37 #[.val (.int p1), .val (.int p2), .unset, .unset, .unset, .unset] [(.int (31 : Int32)), (.int (6 : Int32)), (.ref b1), (.ref b1)]))
  refine ownIastore X22 hx hZ e22 A_b1 ⟨by decide, by decide⟩ (6) (by decide) (Nat.le_of_ble_eq_true rfl) N22 ge_b1 (hb hby at_37) ?_
  intro T23 h23 L23 X23 e23 N23 W23 A_b1
  have E_b1 := E_b1.wr W23
  have Z0 := own_szW Z0 W23
  have A_b1 : Arv Z h23 b1 k_b1 .int (12 : Int32) [(.int (-2147483648 : Int32)), (.int (-1 : Int32)), (.int (0 : Int32)), (.int (9 : Int32)), (.int (10 : Int32)), (.int (13 : Int32)), (.int (31 : Int32)), (.int (0 : Int32)), (.int (0 : Int32)), (.int (0 : Int32)), (.int (0 : Int32)), (.int (0 : Int32))] (.int (0 : Int32)) := A_b1
  show ownFin _ _ _ _ _ (T23.setTop (mkF m 38 #[.val (.int p1), .val (.int p2), .unset, .unset, .unset, .unset] [(.ref b1)]))
  refine ownVia (fun _ k => XS.dup X23.here hx rfl (hb hby at_38) rfl rfl k) ?_
  show ownFin _ _ _ _ _ (T23.setTop (mkF m 39 #[.val (.int p1), .val (.int p2), .unset, .unset, .unset, .unset] [(.ref b1), (.ref b1)]))
  refine ownVia (fun _ k => XS.bipush X23.here hx rfl (hb hby at_39) k) ?_
  show ownFin _ _ _ _ _ (T23.setTop (mkF m 41 #[.val (.int p1), .val (.int p2), .unset, .unset, .unset, .unset] [(.int (7 : Int32)), (.ref b1), (.ref b1)]))
  refine ownVia (fun _ k => X23.ldcInt hx hown (mvT hZ (hw _ (List.mem_of_getElem? (i := 2) rfl))) (g := (mkF m 41 #[.val (.int p1), .val (.int p2), .unset, .unset, .unset, .unset] [(.int (7 : Int32)), (.ref b1), (.ref b1)])) rfl (hb hby at_41) _ k) ?_
  show ownFin _ _ _ _ _ (T23.setTop (mkF m 43 #[.val (.int p1), .val (.int p2), .unset, .unset, .unset, .unset] [(.int (55295 : Int32)), (.int (7 : Int32)), (.ref b1), (.ref b1)]))
  refine ownIastore X23 hx hZ e23 A_b1 ⟨by decide, by decide⟩ (7) (by decide) (Nat.le_of_ble_eq_true rfl) N23 ge_b1 (hb hby at_43) ?_
  intro T24 h24 L24 X24 e24 N24 W24 A_b1
  have E_b1 := E_b1.wr W24
  have Z0 := own_szW Z0 W24
  have A_b1 : Arv Z h24 b1 k_b1 .int (12 : Int32) [(.int (-2147483648 : Int32)), (.int (-1 : Int32)), (.int (0 : Int32)), (.int (9 : Int32)), (.int (10 : Int32)), (.int (13 : Int32)), (.int (31 : Int32)), (.int (55295 : Int32)), (.int (0 : Int32)), (.int (0 : Int32)), (.int (0 : Int32)), (.int (0 : Int32))] (.int (0 : Int32)) := A_b1
  show ownFin _ _ _ _ _ (T24.setTop (mkF m 44 #[.val (.int p1), .val (.int p2), .unset, .unset, .unset, .unset] [(.ref b1)]))
  refine ownVia (fun _ k => XS.dup X24.here hx rfl (hb hby at_44) rfl rfl k) ?_
  show ownFin _ _ _ _ _ (T24.setTop (mkF m 45 #[.val (.int p1), .val (.int p2), .unset, .unset, .unset, .unset] [(.ref b1), (.ref b1)]))
  refine ownVia (fun _ k => XS.bipush X24.here hx rfl (hb hby at_45) k) ?_
  show ownFin _ _ _ _ _ (T24.setTop (mkF m 47 #[.val (.int p1), .val (.int p2), .unset, .unset, .unset, .unset] [(.int (8 : Int32)), (.ref b1), (.ref b1)]))
  refine ownVia (fun _ k => X24.ldcInt hx hown (mvT hZ (hw _ (List.mem_of_getElem? (i := 3) rfl))) (g := (mkF m 47 #[.val (.int p1), .val (.int p2), .unset, .unset, .unset, .unset] [(.int (8 : Int32)), (.ref b1), (.ref b1)])) rfl (hb hby at_47) _ k) ?_
  show ownFin _ _ _ _ _ (T24.setTop (mkF m 49 #[.val (.int p1), .val (.int p2), .unset, .unset, .unset, .unset] [(.int (57343 : Int32)), (.int (8 : Int32)), (.ref b1), (.ref b1)]))
  refine ownIastore X24 hx hZ e24 A_b1 ⟨by decide, by decide⟩ (8) (by decide) (Nat.le_of_ble_eq_true rfl) N24 ge_b1 (hb hby at_49) ?_
  intro T25 h25 L25 X25 e25 N25 W25 A_b1
  have E_b1 := E_b1.wr W25
  have Z0 := own_szW Z0 W25
  have A_b1 : Arv Z h25 b1 k_b1 .int (12 : Int32) [(.int (-2147483648 : Int32)), (.int (-1 : Int32)), (.int (0 : Int32)), (.int (9 : Int32)), (.int (10 : Int32)), (.int (13 : Int32)), (.int (31 : Int32)), (.int (55295 : Int32)), (.int (57343 : Int32)), (.int (0 : Int32)), (.int (0 : Int32)), (.int (0 : Int32))] (.int (0 : Int32)) := A_b1
  show ownFin _ _ _ _ _ (T25.setTop (mkF m 50 #[.val (.int p1), .val (.int p2), .unset, .unset, .unset, .unset] [(.ref b1)]))
  refine ownVia (fun _ k => XS.dup X25.here hx rfl (hb hby at_50) rfl rfl k) ?_
  show ownFin _ _ _ _ _ (T25.setTop (mkF m 51 #[.val (.int p1), .val (.int p2), .unset, .unset, .unset, .unset] [(.ref b1), (.ref b1)]))
  refine ownVia (fun _ k => XS.bipush X25.here hx rfl (hb hby at_51) k) ?_
  show ownFin _ _ _ _ _ (T25.setTop (mkF m 53 #[.val (.int p1), .val (.int p2), .unset, .unset, .unset, .unset] [(.int (9 : Int32)), (.ref b1), (.ref b1)]))
  refine ownVia (fun _ k => X25.ldcInt hx hown (mvT hZ (hw _ (List.mem_of_getElem? (i := 4) rfl))) (g := (mkF m 53 #[.val (.int p1), .val (.int p2), .unset, .unset, .unset, .unset] [(.int (9 : Int32)), (.ref b1), (.ref b1)])) rfl (hb hby at_53) _ k) ?_
  show ownFin _ _ _ _ _ (T25.setTop (mkF m 55 #[.val (.int p1), .val (.int p2), .unset, .unset, .unset, .unset] [(.int (65533 : Int32)), (.int (9 : Int32)), (.ref b1), (.ref b1)]))
  refine ownIastore X25 hx hZ e25 A_b1 ⟨by decide, by decide⟩ (9) (by decide) (Nat.le_of_ble_eq_true rfl) N25 ge_b1 (hb hby at_55) ?_
  intro T26 h26 L26 X26 e26 N26 W26 A_b1
  have E_b1 := E_b1.wr W26
  have Z0 := own_szW Z0 W26
  have A_b1 : Arv Z h26 b1 k_b1 .int (12 : Int32) [(.int (-2147483648 : Int32)), (.int (-1 : Int32)), (.int (0 : Int32)), (.int (9 : Int32)), (.int (10 : Int32)), (.int (13 : Int32)), (.int (31 : Int32)), (.int (55295 : Int32)), (.int (57343 : Int32)), (.int (65533 : Int32)), (.int (0 : Int32)), (.int (0 : Int32))] (.int (0 : Int32)) := A_b1
  show ownFin _ _ _ _ _ (T26.setTop (mkF m 56 #[.val (.int p1), .val (.int p2), .unset, .unset, .unset, .unset] [(.ref b1)]))
  refine ownVia (fun _ k => XS.dup X26.here hx rfl (hb hby at_56) rfl rfl k) ?_
  show ownFin _ _ _ _ _ (T26.setTop (mkF m 57 #[.val (.int p1), .val (.int p2), .unset, .unset, .unset, .unset] [(.ref b1), (.ref b1)]))
  refine ownVia (fun _ k => XS.bipush X26.here hx rfl (hb hby at_57) k) ?_
  show ownFin _ _ _ _ _ (T26.setTop (mkF m 59 #[.val (.int p1), .val (.int p2), .unset, .unset, .unset, .unset] [(.int (10 : Int32)), (.ref b1), (.ref b1)]))
  refine ownVia (fun _ k => X26.ldcInt hx hown (mvT hZ (hw _ (List.mem_of_getElem? (i := 5) rfl))) (g := (mkF m 59 #[.val (.int p1), .val (.int p2), .unset, .unset, .unset, .unset] [(.int (10 : Int32)), (.ref b1), (.ref b1)])) rfl (hb hby at_59) _ k) ?_
  show ownFin _ _ _ _ _ (T26.setTop (mkF m 61 #[.val (.int p1), .val (.int p2), .unset, .unset, .unset, .unset] [(.int (65535 : Int32)), (.int (10 : Int32)), (.ref b1), (.ref b1)]))
  refine ownIastore X26 hx hZ e26 A_b1 ⟨by decide, by decide⟩ (10) (by decide) (Nat.le_of_ble_eq_true rfl) N26 ge_b1 (hb hby at_61) ?_
  intro T27 h27 L27 X27 e27 N27 W27 A_b1
  have E_b1 := E_b1.wr W27
  have Z0 := own_szW Z0 W27
  have A_b1 : Arv Z h27 b1 k_b1 .int (12 : Int32) [(.int (-2147483648 : Int32)), (.int (-1 : Int32)), (.int (0 : Int32)), (.int (9 : Int32)), (.int (10 : Int32)), (.int (13 : Int32)), (.int (31 : Int32)), (.int (55295 : Int32)), (.int (57343 : Int32)), (.int (65533 : Int32)), (.int (65535 : Int32)), (.int (0 : Int32))] (.int (0 : Int32)) := A_b1
  show ownFin _ _ _ _ _ (T27.setTop (mkF m 62 #[.val (.int p1), .val (.int p2), .unset, .unset, .unset, .unset] [(.ref b1)]))
  refine ownVia (fun _ k => XS.dup X27.here hx rfl (hb hby at_62) rfl rfl k) ?_
  show ownFin _ _ _ _ _ (T27.setTop (mkF m 63 #[.val (.int p1), .val (.int p2), .unset, .unset, .unset, .unset] [(.ref b1), (.ref b1)]))
  refine ownVia (fun _ k => XS.bipush X27.here hx rfl (hb hby at_63) k) ?_
  show ownFin _ _ _ _ _ (T27.setTop (mkF m 65 #[.val (.int p1), .val (.int p2), .unset, .unset, .unset, .unset] [(.int (11 : Int32)), (.ref b1), (.ref b1)]))
  refine ownVia (fun _ k => X27.ldcInt hx hown (mvT hZ (hw _ (List.mem_of_getElem? (i := 6) rfl))) (g := (mkF m 65 #[.val (.int p1), .val (.int p2), .unset, .unset, .unset, .unset] [(.int (11 : Int32)), (.ref b1), (.ref b1)])) rfl (hb hby at_65) _ k) ?_
  show ownFin _ _ _ _ _ (T27.setTop (mkF m 67 #[.val (.int p1), .val (.int p2), .unset, .unset, .unset, .unset] [(.int (1114111 : Int32)), (.int (11 : Int32)), (.ref b1), (.ref b1)]))
  refine ownIastore X27 hx hZ e27 A_b1 ⟨by decide, by decide⟩ (11) (by decide) (Nat.le_of_ble_eq_true rfl) N27 ge_b1 (hb hby at_67) ?_
  intro T28 h28 L28 X28 e28 N28 W28 A_b1
  have E_b1 := E_b1.wr W28
  have Z0 := own_szW Z0 W28
  have A_b1 : Arv Z h28 b1 k_b1 .int (12 : Int32) [(.int (-2147483648 : Int32)), (.int (-1 : Int32)), (.int (0 : Int32)), (.int (9 : Int32)), (.int (10 : Int32)), (.int (13 : Int32)), (.int (31 : Int32)), (.int (55295 : Int32)), (.int (57343 : Int32)), (.int (65533 : Int32)), (.int (65535 : Int32)), (.int (1114111 : Int32))] (.int (0 : Int32)) := A_b1
  show ownFin _ _ _ _ _ (T28.setTop (mkF m 68 #[.val (.int p1), .val (.int p2), .unset, .unset, .unset, .unset] [(.ref b1)]))
  refine ownVia (fun _ k => XS.astoreN X28.here hx rfl (hb hby at_68) rfl rfl (l' := #[.val (.int p1), .val (.int p2), .val (.ref b1), .unset, .unset, .unset]) rfl k) ?_
  show ownFin _ _ _ _ _ (T28.setTop (mkF m 69 #[.val (.int p1), .val (.int p2), .val (.ref b1), .unset, .unset, .unset] []))
  refine ownVia (fun _ k => XS.iloadN X28.here hx rfl (hb hby at_69) rfl k) ?_
  show ownFin _ _ _ _ _ (T28.setTop (mkF m 70 #[.val (.int p1), .val (.int p2), .val (.ref b1), .unset, .unset, .unset] [(.int p2)]))
  refine ownVia (fun _ k => XS.iconst X28.here hx rfl (hb hby at_70) k) ?_
  show ownFin _ _ _ _ _ (T28.setTop (mkF m 71 #[.val (.int p1), .val (.int p2), .val (.ref b1), .unset, .unset, .unset] [(.int (1 : Int32)), (.int p2)]))
  refine ownVia (fun _ k => XS.iand X28.here hx rfl (hb hby at_71) rfl k) ?_
  show ownFin _ _ _ _ _ (T28.setTop (mkF m 72 #[.val (.int p1), .val (.int p2), .val (.ref b1), .unset, .unset, .unset] [(.int (p2 &&& (1 : Int32)))]))
  have J122 : ∀ (raw cv : Int32) (s5 : Slot) (hs5 : One s5) (hcv : cv.toInt ≤ 1114111), ownFin p e below (ownFE s room_1.cells room_1.slots) (Q_own_law Z p1 p2 h0 n0 ) (T28.setTop (mkF m 122 #[.val (.int p1), .val (.int p2), .val (.ref b1), .val (.int raw), .val (.int cv), s5] [])) := by
    intro raw cv s5 hs5 hcv
    show ownFin _ _ _ _ _ (T28.setTop (mkF m 122 #[.val (.int p1), .val (.int p2), .val (.ref b1), .val (.int raw), .val (.int cv), s5] []))
    have J183 : ∀ (hx0 : own_xc cv = 0), ownFin p e below (ownFE s room_1.cells room_1.slots) (Q_own_law Z p1 p2 h0 n0 ) (T28.setTop (mkF m 183 #[.val (.int p1), .val (.int p2), .val (.ref b1), .val (.int raw), .val (.int cv), s5] [])) := by
      intro hx0
      show ownFin _ _ _ _ _ (T28.setTop (mkF m 183 #[.val (.int p1), .val (.int p2), .val (.ref b1), .val (.int raw), .val (.int cv), s5] []))
      refine ownVia (fun _ k => XS.iconst X28.here hx rfl (hb hby at_183) k) ?_
      show ownFin _ _ _ _ _ (T28.setTop (mkF m 184 #[.val (.int p1), .val (.int p2), .val (.ref b1), .val (.int raw), .val (.int cv), s5] [(.int (1 : Int32))]))
      refine ownVia (fun _ k => XS.goto X28.here hx rfl (pc0 := 184) (pc' := 188) rfl (hb hby at_184) (by decide) (by decide) k) ?_
      show ownFin _ _ _ _ _ (T28.setTop (mkF m 188 #[.val (.int p1), .val (.int p2), .val (.ref b1), .val (.int raw), .val (.int cv), s5] [(.int (1 : Int32))]))
      refine ownVia (fun _ k => XS.istoreS X28.here hx rfl (hb hby at_188) rfl rfl hs5 k) ?_
      show ownFin _ _ _ _ _ (T28.setTop (mkF m 190 #[.val (.int p1), .val (.int p2), .val (.ref b1), .val (.int raw), .val (.int cv), .val (.int (1 : Int32))] []))
      refine ownVia (fun _ k => XS.iload X28.here hx rfl (hb hby at_190) rfl k) ?_
      show ownFin _ _ _ _ _ (T28.setTop (mkF m 192 #[.val (.int p1), .val (.int p2), .val (.ref b1), .val (.int raw), .val (.int cv), .val (.int (1 : Int32))] [(.int cv)]))
      refine ownCallS X28 hx hZ hown (hw _ (List.mem_of_getElem? (i := 7) rfl)) (hw _ (List.mem_of_getElem? (i := 8) rfl)) (hw _ (List.mem_of_getElem? (i := 9) rfl)) (hw _ (List.mem_of_getElem? (i := 10) rfl)) (by decide) e28 (own_isxml l Z a0 hw cv h28 n0 Z0) (by rw [hml]; rfl) [(.int cv)] [] (lenOf own_pd0 rfl) rfl rfl 0 rfl (hb hby at_192) (by decide) (by decide) (by decide) (by decide) ?_
      intro v29 T29 L29 X29 hq29
      obtain ⟨rfl, N29q, eq29⟩ := hq29
      have N29 := Fr.app N28 N29q
      have e29 : T29.heap = h28 := eq29
      show ownFin _ _ _ _ _ (T29.setTop (mkF m 195 #[.val (.int p1), .val (.int p2), .val (.ref b1), .val (.int raw), .val (.int cv), .val (.int (1 : Int32))] [(.int (own_xc cv))]))
      refine ownVia (fun _ k => XS.iload X29.here hx rfl (hb hby at_195) rfl k) ?_
      show ownFin _ _ _ _ _ (T29.setTop (mkF m 197 #[.val (.int p1), .val (.int p2), .val (.ref b1), .val (.int raw), .val (.int cv), .val (.int (1 : Int32))] [(.int (1 : Int32)), (.int (own_xc cv))]))
      refine ownVia (fun _ k => XS.ifYes X29.here hx rfl (pc0 := 197) (pc' := 204) rfl (hb hby at_197) rfl ((if0 _ _).trans (feq (by decide)).2) (by decide) (by decide) k) ?_
      show ownFin _ _ _ _ _ (T29.setTop (mkF m 204 #[.val (.int p1), .val (.int p2), .val (.ref b1), .val (.int raw), .val (.int cv), .val (.int (1 : Int32))] [(.int (own_xc cv))]))
      refine ownVia (fun _ k => XS.iconst X29.here hx rfl (hb hby at_204) k) ?_
      show ownFin _ _ _ _ _ (T29.setTop (mkF m 205 #[.val (.int p1), .val (.int p2), .val (.ref b1), .val (.int raw), .val (.int cv), .val (.int (1 : Int32))] [(.int (0 : Int32)), (.int (own_xc cv))]))
      refine ownVia (fun _ k => XS.icmpNo X29.here hx rfl (hb hby at_205) rfl (teq hx0).2 k) ?_
      show ownFin _ _ _ _ _ (T29.setTop (mkF m 208 #[.val (.int p1), .val (.int p2), .val (.ref b1), .val (.int raw), .val (.int cv), .val (.int (1 : Int32))] []))
      refine ownVia (fun _ k => XS.iconst X29.here hx rfl (hb hby at_208) k) ?_
      show ownFin _ _ _ _ _ (T29.setTop (mkF m 209 #[.val (.int p1), .val (.int p2), .val (.ref b1), .val (.int raw), .val (.int cv), .val (.int (1 : Int32))] [(.int (1 : Int32))]))
      refine ownVia (fun _ k => XS.goto X29.here hx rfl (pc0 := 209) (pc' := 213) rfl (hb hby at_209) (by decide) (by decide) k) ?_
      show ownFin _ _ _ _ _ (T29.setTop (mkF m 213 #[.val (.int p1), .val (.int p2), .val (.ref b1), .val (.int raw), .val (.int cv), .val (.int (1 : Int32))] [(.int (1 : Int32))]))
      refine ownRetZ X29 hx hlk hret (hb hby at_213) (by decide) (by decide) (Or.inr rfl) ?_
      show (Q_own_law Z p1 p2 h0 n0 ) (some (.int (1 : Int32))) T29.heap _
      rw [e29]
      exact ⟨rfl, N29⟩
    have J187 : ∀ (hx0 : own_xc cv = 1), ownFin p e below (ownFE s room_1.cells room_1.slots) (Q_own_law Z p1 p2 h0 n0 ) (T28.setTop (mkF m 187 #[.val (.int p1), .val (.int p2), .val (.ref b1), .val (.int raw), .val (.int cv), s5] [])) := by
      intro hx0
      show ownFin _ _ _ _ _ (T28.setTop (mkF m 187 #[.val (.int p1), .val (.int p2), .val (.ref b1), .val (.int raw), .val (.int cv), s5] []))
      refine ownVia (fun _ k => XS.iconst X28.here hx rfl (hb hby at_187) k) ?_
      show ownFin _ _ _ _ _ (T28.setTop (mkF m 188 #[.val (.int p1), .val (.int p2), .val (.ref b1), .val (.int raw), .val (.int cv), s5] [(.int (0 : Int32))]))
      refine ownVia (fun _ k => XS.istoreS X28.here hx rfl (hb hby at_188) rfl rfl hs5 k) ?_
      show ownFin _ _ _ _ _ (T28.setTop (mkF m 190 #[.val (.int p1), .val (.int p2), .val (.ref b1), .val (.int raw), .val (.int cv), .val (.int (0 : Int32))] []))
      refine ownVia (fun _ k => XS.iload X28.here hx rfl (hb hby at_190) rfl k) ?_
      show ownFin _ _ _ _ _ (T28.setTop (mkF m 192 #[.val (.int p1), .val (.int p2), .val (.ref b1), .val (.int raw), .val (.int cv), .val (.int (0 : Int32))] [(.int cv)]))
      refine ownCallS X28 hx hZ hown (hw _ (List.mem_of_getElem? (i := 7) rfl)) (hw _ (List.mem_of_getElem? (i := 8) rfl)) (hw _ (List.mem_of_getElem? (i := 9) rfl)) (hw _ (List.mem_of_getElem? (i := 10) rfl)) (by decide) e28 (own_isxml l Z a0 hw cv h28 n0 Z0) (by rw [hml]; rfl) [(.int cv)] [] (lenOf own_pd0 rfl) rfl rfl 0 rfl (hb hby at_192) (by decide) (by decide) (by decide) (by decide) ?_
      intro v30 T30 L30 X30 hq30
      obtain ⟨rfl, N30q, eq30⟩ := hq30
      have N30 := Fr.app N28 N30q
      have e30 : T30.heap = h28 := eq30
      show ownFin _ _ _ _ _ (T30.setTop (mkF m 195 #[.val (.int p1), .val (.int p2), .val (.ref b1), .val (.int raw), .val (.int cv), .val (.int (0 : Int32))] [(.int (own_xc cv))]))
      refine ownVia (fun _ k => XS.iload X30.here hx rfl (hb hby at_195) rfl k) ?_
      show ownFin _ _ _ _ _ (T30.setTop (mkF m 197 #[.val (.int p1), .val (.int p2), .val (.ref b1), .val (.int raw), .val (.int cv), .val (.int (0 : Int32))] [(.int (0 : Int32)), (.int (own_xc cv))]))
      refine ownVia (fun _ k => XS.ifNo X30.here hx rfl (hb hby at_197) rfl ((if0 _ _).trans (teq (by decide)).2) k) ?_
      show ownFin _ _ _ _ _ (T30.setTop (mkF m 200 #[.val (.int p1), .val (.int p2), .val (.ref b1), .val (.int raw), .val (.int cv), .val (.int (0 : Int32))] [(.int (own_xc cv))]))
      refine ownVia (fun _ k => XS.iconst X30.here hx rfl (hb hby at_200) k) ?_
      show ownFin _ _ _ _ _ (T30.setTop (mkF m 201 #[.val (.int p1), .val (.int p2), .val (.ref b1), .val (.int raw), .val (.int cv), .val (.int (0 : Int32))] [(.int (1 : Int32)), (.int (own_xc cv))]))
      refine ownVia (fun _ k => XS.goto X30.here hx rfl (pc0 := 201) (pc' := 205) rfl (hb hby at_201) (by decide) (by decide) k) ?_
      show ownFin _ _ _ _ _ (T30.setTop (mkF m 205 #[.val (.int p1), .val (.int p2), .val (.ref b1), .val (.int raw), .val (.int cv), .val (.int (0 : Int32))] [(.int (1 : Int32)), (.int (own_xc cv))]))
      refine ownVia (fun _ k => XS.icmpNo X30.here hx rfl (hb hby at_205) rfl (teq hx0).2 k) ?_
      show ownFin _ _ _ _ _ (T30.setTop (mkF m 208 #[.val (.int p1), .val (.int p2), .val (.ref b1), .val (.int raw), .val (.int cv), .val (.int (0 : Int32))] []))
      refine ownVia (fun _ k => XS.iconst X30.here hx rfl (hb hby at_208) k) ?_
      show ownFin _ _ _ _ _ (T30.setTop (mkF m 209 #[.val (.int p1), .val (.int p2), .val (.ref b1), .val (.int raw), .val (.int cv), .val (.int (0 : Int32))] [(.int (1 : Int32))]))
      refine ownVia (fun _ k => XS.goto X30.here hx rfl (pc0 := 209) (pc' := 213) rfl (hb hby at_209) (by decide) (by decide) k) ?_
      show ownFin _ _ _ _ _ (T30.setTop (mkF m 213 #[.val (.int p1), .val (.int p2), .val (.ref b1), .val (.int raw), .val (.int cv), .val (.int (0 : Int32))] [(.int (1 : Int32))]))
      refine ownRetZ X30 hx hlk hret (hb hby at_213) (by decide) (by decide) (Or.inr rfl) ?_
      show (Q_own_law Z p1 p2 h0 n0 ) (some (.int (1 : Int32))) T30.heap _
      rw [e30]
      exact ⟨rfl, N30⟩
    have J169 : ∀ (hq : ¬ cv.toInt < 0 ∧ (cv.toInt < 32 → cv.toInt = 9 ∨ cv.toInt = 10 ∨ cv.toInt = 13) ∧ ¬ (55296 ≤ cv.toInt ∧ cv.toInt ≤ 57343)), ownFin p e below (ownFE s room_1.cells room_1.slots) (Q_own_law Z p1 p2 h0 n0 ) (T28.setTop (mkF m 169 #[.val (.int p1), .val (.int p2), .val (.ref b1), .val (.int raw), .val (.int cv), s5] [])) := by
      intro hq
      show ownFin _ _ _ _ _ (T28.setTop (mkF m 169 #[.val (.int p1), .val (.int p2), .val (.ref b1), .val (.int raw), .val (.int cv), s5] []))
      refine ownVia (fun _ k => XS.iload X28.here hx rfl (hb hby at_169) rfl k) ?_
      show ownFin _ _ _ _ _ (T28.setTop (mkF m 171 #[.val (.int p1), .val (.int p2), .val (.ref b1), .val (.int raw), .val (.int cv), s5] [(.int cv)]))
      refine ownVia (fun _ k => X28.ldcInt hx hown (mvT hZ (hw _ (List.mem_of_getElem? (i := 15) rfl))) (g := (mkF m 171 #[.val (.int p1), .val (.int p2), .val (.ref b1), .val (.int raw), .val (.int cv), s5] [(.int cv)])) rfl (hb hby at_171) _ k) ?_
      show ownFin _ _ _ _ _ (T28.setTop (mkF m 173 #[.val (.int p1), .val (.int p2), .val (.ref b1), .val (.int raw), .val (.int cv), s5] [(.int (65534 : Int32)), (.int cv)]))
      by_cases hc31 : cv = (65534 : Int32)
      case pos =>
        have hc31I : cv.toInt = 65534 := (own_eqi rfl (by decide)).mp hc31
        refine ownVia (fun _ k => XS.icmpYes X28.here hx rfl (pc0 := 173) (pc' := 183) rfl (hb hby at_173) rfl (teq hc31).1 (by decide) (by decide) k) ?_
        show ownFin _ _ _ _ _ (T28.setTop (mkF m 183 #[.val (.int p1), .val (.int p2), .val (.ref b1), .val (.int raw), .val (.int cv), s5] []))
        exact J183 (own_xc0 (by omega))
      case neg =>
        have hc31I : ¬ cv.toInt = 65534 := fun q => hc31 ((own_eqi rfl (by decide)).mpr q)
        refine ownVia (fun _ k => XS.icmpNo X28.here hx rfl (hb hby at_173) rfl (feq hc31).1 k) ?_
        show ownFin _ _ _ _ _ (T28.setTop (mkF m 176 #[.val (.int p1), .val (.int p2), .val (.ref b1), .val (.int raw), .val (.int cv), s5] []))
        refine ownVia (fun _ k => XS.iload X28.here hx rfl (hb hby at_176) rfl k) ?_
        show ownFin _ _ _ _ _ (T28.setTop (mkF m 178 #[.val (.int p1), .val (.int p2), .val (.ref b1), .val (.int raw), .val (.int cv), s5] [(.int cv)]))
        refine ownVia (fun _ k => X28.ldcInt hx hown (mvT hZ (hw _ (List.mem_of_getElem? (i := 5) rfl))) (g := (mkF m 178 #[.val (.int p1), .val (.int p2), .val (.ref b1), .val (.int raw), .val (.int cv), s5] [(.int cv)])) rfl (hb hby at_178) _ k) ?_
        show ownFin _ _ _ _ _ (T28.setTop (mkF m 180 #[.val (.int p1), .val (.int p2), .val (.ref b1), .val (.int raw), .val (.int cv), s5] [(.int (65535 : Int32)), (.int cv)]))
        by_cases hc32 : cv = (65535 : Int32)
        case pos =>
          have hc32I : cv.toInt = 65535 := (own_eqi rfl (by decide)).mp hc32
          refine ownVia (fun _ k => XS.icmpNo X28.here hx rfl (hb hby at_180) rfl (teq hc32).2 k) ?_
          show ownFin _ _ _ _ _ (T28.setTop (mkF m 183 #[.val (.int p1), .val (.int p2), .val (.ref b1), .val (.int raw), .val (.int cv), s5] []))
          exact J183 (own_xc0 (by omega))
        case neg =>
          have hc32I : ¬ cv.toInt = 65535 := fun q => hc32 ((own_eqi rfl (by decide)).mpr q)
          refine ownVia (fun _ k => XS.icmpYes X28.here hx rfl (pc0 := 180) (pc' := 187) rfl (hb hby at_180) rfl (feq hc32).2 (by decide) (by decide) k) ?_
          show ownFin _ _ _ _ _ (T28.setTop (mkF m 187 #[.val (.int p1), .val (.int p2), .val (.ref b1), .val (.int raw), .val (.int cv), s5] []))
          exact J187 (own_xc1 (by omega))
    have J155 : ∀ (hq : ¬ cv.toInt < 0 ∧ (cv.toInt < 32 → cv.toInt = 9 ∨ cv.toInt = 10 ∨ cv.toInt = 13)), ownFin p e below (ownFE s room_1.cells room_1.slots) (Q_own_law Z p1 p2 h0 n0 ) (T28.setTop (mkF m 155 #[.val (.int p1), .val (.int p2), .val (.ref b1), .val (.int raw), .val (.int cv), s5] [])) := by
      intro hq
      show ownFin _ _ _ _ _ (T28.setTop (mkF m 155 #[.val (.int p1), .val (.int p2), .val (.ref b1), .val (.int raw), .val (.int cv), s5] []))
      refine ownVia (fun _ k => XS.iload X28.here hx rfl (hb hby at_155) rfl k) ?_
      show ownFin _ _ _ _ _ (T28.setTop (mkF m 157 #[.val (.int p1), .val (.int p2), .val (.ref b1), .val (.int raw), .val (.int cv), s5] [(.int cv)]))
      refine ownVia (fun _ k => X28.ldcInt hx hown (mvT hZ (hw _ (List.mem_of_getElem? (i := 14) rfl))) (g := (mkF m 157 #[.val (.int p1), .val (.int p2), .val (.ref b1), .val (.int raw), .val (.int cv), s5] [(.int cv)])) rfl (hb hby at_157) _ k) ?_
      show ownFin _ _ _ _ _ (T28.setTop (mkF m 159 #[.val (.int p1), .val (.int p2), .val (.ref b1), .val (.int raw), .val (.int cv), s5] [(.int (55296 : Int32)), (.int cv)]))
      by_cases hc33 : cv < (55296 : Int32)
      case pos =>
        have hc33I : cv.toInt < 55296 := (own_lti rfl (by decide)).mp hc33
        refine ownVia (fun _ k => XS.icmpYes X28.here hx rfl (pc0 := 159) (pc' := 169) rfl (hb hby at_159) rfl (tlt hc33).1 (by decide) (by decide) k) ?_
        show ownFin _ _ _ _ _ (T28.setTop (mkF m 169 #[.val (.int p1), .val (.int p2), .val (.ref b1), .val (.int raw), .val (.int cv), s5] []))
        exact J169 (by omega)
      case neg =>
        have hc33I : ¬ cv.toInt < 55296 := fun q => hc33 ((own_lti rfl (by decide)).mpr q)
        refine ownVia (fun _ k => XS.icmpNo X28.here hx rfl (hb hby at_159) rfl (flt hc33).1 k) ?_
        show ownFin _ _ _ _ _ (T28.setTop (mkF m 162 #[.val (.int p1), .val (.int p2), .val (.ref b1), .val (.int raw), .val (.int cv), s5] []))
        refine ownVia (fun _ k => XS.iload X28.here hx rfl (hb hby at_162) rfl k) ?_
        show ownFin _ _ _ _ _ (T28.setTop (mkF m 164 #[.val (.int p1), .val (.int p2), .val (.ref b1), .val (.int raw), .val (.int cv), s5] [(.int cv)]))
        refine ownVia (fun _ k => X28.ldcInt hx hown (mvT hZ (hw _ (List.mem_of_getElem? (i := 3) rfl))) (g := (mkF m 164 #[.val (.int p1), .val (.int p2), .val (.ref b1), .val (.int raw), .val (.int cv), s5] [(.int cv)])) rfl (hb hby at_164) _ k) ?_
        show ownFin _ _ _ _ _ (T28.setTop (mkF m 166 #[.val (.int p1), .val (.int p2), .val (.ref b1), .val (.int raw), .val (.int cv), s5] [(.int (57343 : Int32)), (.int cv)]))
        by_cases hc34 : (57343 : Int32) < cv
        case pos =>
          have hc34I : 57343 < cv.toInt := (own_lti (by decide) rfl).mp hc34
          refine ownVia (fun _ k => XS.icmpNo X28.here hx rfl (hb hby at_166) rfl (tlt hc34).2.2.2 k) ?_
          show ownFin _ _ _ _ _ (T28.setTop (mkF m 169 #[.val (.int p1), .val (.int p2), .val (.ref b1), .val (.int raw), .val (.int cv), s5] []))
          exact J169 (by omega)
        case neg =>
          have hc34I : ¬ 57343 < cv.toInt := fun q => hc34 ((own_lti (by decide) rfl).mpr q)
          refine ownVia (fun _ k => XS.icmpYes X28.here hx rfl (pc0 := 166) (pc' := 183) rfl (hb hby at_166) rfl (flt hc34).2.2.2 (by decide) (by decide) k) ?_
          show ownFin _ _ _ _ _ (T28.setTop (mkF m 183 #[.val (.int p1), .val (.int p2), .val (.ref b1), .val (.int raw), .val (.int cv), s5] []))
          exact J183 (own_xc0 (by omega))
    refine ownVia (fun _ k => XS.iload X28.here hx rfl (hb hby at_122) rfl k) ?_
    show ownFin _ _ _ _ _ (T28.setTop (mkF m 124 #[.val (.int p1), .val (.int p2), .val (.ref b1), .val (.int raw), .val (.int cv), s5] [(.int cv)]))
    by_cases hc35 : cv < (0 : Int32)
    case pos =>
      have hc35I : cv.toInt < 0 := (own_lti rfl (by decide)).mp hc35
      refine ownVia (fun _ k => XS.ifYes X28.here hx rfl (pc0 := 124) (pc' := 183) rfl (hb hby at_124) rfl ((if0 _ _).trans (tlt hc35).1) (by decide) (by decide) k) ?_
      show ownFin _ _ _ _ _ (T28.setTop (mkF m 183 #[.val (.int p1), .val (.int p2), .val (.ref b1), .val (.int raw), .val (.int cv), s5] []))
      exact J183 (own_xc0 (by omega))
    case neg =>
      have hc35I : ¬ cv.toInt < 0 := fun q => hc35 ((own_lti rfl (by decide)).mpr q)
      refine ownVia (fun _ k => XS.ifNo X28.here hx rfl (hb hby at_124) rfl ((if0 _ _).trans (flt hc35).1) k) ?_
      show ownFin _ _ _ _ _ (T28.setTop (mkF m 127 #[.val (.int p1), .val (.int p2), .val (.ref b1), .val (.int raw), .val (.int cv), s5] []))
      refine ownVia (fun _ k => XS.iload X28.here hx rfl (hb hby at_127) rfl k) ?_
      show ownFin _ _ _ _ _ (T28.setTop (mkF m 129 #[.val (.int p1), .val (.int p2), .val (.ref b1), .val (.int raw), .val (.int cv), s5] [(.int cv)]))
      refine ownVia (fun _ k => XS.bipush X28.here hx rfl (hb hby at_129) k) ?_
      show ownFin _ _ _ _ _ (T28.setTop (mkF m 131 #[.val (.int p1), .val (.int p2), .val (.ref b1), .val (.int raw), .val (.int cv), s5] [(.int (32 : Int32)), (.int cv)]))
      by_cases hc36 : cv < (32 : Int32)
      case pos =>
        have hc36I : cv.toInt < 32 := (own_lti rfl (by decide)).mp hc36
        refine ownVia (fun _ k => XS.icmpNo X28.here hx rfl (hb hby at_131) rfl (tlt hc36).2.1 k) ?_
        show ownFin _ _ _ _ _ (T28.setTop (mkF m 134 #[.val (.int p1), .val (.int p2), .val (.ref b1), .val (.int raw), .val (.int cv), s5] []))
        refine ownVia (fun _ k => XS.iload X28.here hx rfl (hb hby at_134) rfl k) ?_
        show ownFin _ _ _ _ _ (T28.setTop (mkF m 136 #[.val (.int p1), .val (.int p2), .val (.ref b1), .val (.int raw), .val (.int cv), s5] [(.int cv)]))
        refine ownVia (fun _ k => XS.bipush X28.here hx rfl (hb hby at_136) k) ?_
        show ownFin _ _ _ _ _ (T28.setTop (mkF m 138 #[.val (.int p1), .val (.int p2), .val (.ref b1), .val (.int raw), .val (.int cv), s5] [(.int (9 : Int32)), (.int cv)]))
        by_cases hc37 : cv = (9 : Int32)
        case pos =>
          have hc37I : cv.toInt = 9 := (own_eqi rfl (by decide)).mp hc37
          refine ownVia (fun _ k => XS.icmpYes X28.here hx rfl (pc0 := 138) (pc' := 155) rfl (hb hby at_138) rfl (teq hc37).1 (by decide) (by decide) k) ?_
          show ownFin _ _ _ _ _ (T28.setTop (mkF m 155 #[.val (.int p1), .val (.int p2), .val (.ref b1), .val (.int raw), .val (.int cv), s5] []))
          exact J155 (by omega)
        case neg =>
          have hc37I : ¬ cv.toInt = 9 := fun q => hc37 ((own_eqi rfl (by decide)).mpr q)
          refine ownVia (fun _ k => XS.icmpNo X28.here hx rfl (hb hby at_138) rfl (feq hc37).1 k) ?_
          show ownFin _ _ _ _ _ (T28.setTop (mkF m 141 #[.val (.int p1), .val (.int p2), .val (.ref b1), .val (.int raw), .val (.int cv), s5] []))
          refine ownVia (fun _ k => XS.iload X28.here hx rfl (hb hby at_141) rfl k) ?_
          show ownFin _ _ _ _ _ (T28.setTop (mkF m 143 #[.val (.int p1), .val (.int p2), .val (.ref b1), .val (.int raw), .val (.int cv), s5] [(.int cv)]))
          refine ownVia (fun _ k => XS.bipush X28.here hx rfl (hb hby at_143) k) ?_
          show ownFin _ _ _ _ _ (T28.setTop (mkF m 145 #[.val (.int p1), .val (.int p2), .val (.ref b1), .val (.int raw), .val (.int cv), s5] [(.int (10 : Int32)), (.int cv)]))
          by_cases hc38 : cv = (10 : Int32)
          case pos =>
            have hc38I : cv.toInt = 10 := (own_eqi rfl (by decide)).mp hc38
            refine ownVia (fun _ k => XS.icmpYes X28.here hx rfl (pc0 := 145) (pc' := 155) rfl (hb hby at_145) rfl (teq hc38).1 (by decide) (by decide) k) ?_
            show ownFin _ _ _ _ _ (T28.setTop (mkF m 155 #[.val (.int p1), .val (.int p2), .val (.ref b1), .val (.int raw), .val (.int cv), s5] []))
            exact J155 (by omega)
          case neg =>
            have hc38I : ¬ cv.toInt = 10 := fun q => hc38 ((own_eqi rfl (by decide)).mpr q)
            refine ownVia (fun _ k => XS.icmpNo X28.here hx rfl (hb hby at_145) rfl (feq hc38).1 k) ?_
            show ownFin _ _ _ _ _ (T28.setTop (mkF m 148 #[.val (.int p1), .val (.int p2), .val (.ref b1), .val (.int raw), .val (.int cv), s5] []))
            refine ownVia (fun _ k => XS.iload X28.here hx rfl (hb hby at_148) rfl k) ?_
            show ownFin _ _ _ _ _ (T28.setTop (mkF m 150 #[.val (.int p1), .val (.int p2), .val (.ref b1), .val (.int raw), .val (.int cv), s5] [(.int cv)]))
            refine ownVia (fun _ k => XS.bipush X28.here hx rfl (hb hby at_150) k) ?_
            show ownFin _ _ _ _ _ (T28.setTop (mkF m 152 #[.val (.int p1), .val (.int p2), .val (.ref b1), .val (.int raw), .val (.int cv), s5] [(.int (13 : Int32)), (.int cv)]))
            by_cases hc39 : cv = (13 : Int32)
            case pos =>
              have hc39I : cv.toInt = 13 := (own_eqi rfl (by decide)).mp hc39
              refine ownVia (fun _ k => XS.icmpNo X28.here hx rfl (hb hby at_152) rfl (teq hc39).2 k) ?_
              show ownFin _ _ _ _ _ (T28.setTop (mkF m 155 #[.val (.int p1), .val (.int p2), .val (.ref b1), .val (.int raw), .val (.int cv), s5] []))
              exact J155 (by omega)
            case neg =>
              have hc39I : ¬ cv.toInt = 13 := fun q => hc39 ((own_eqi rfl (by decide)).mpr q)
              refine ownVia (fun _ k => XS.icmpYes X28.here hx rfl (pc0 := 152) (pc' := 183) rfl (hb hby at_152) rfl (feq hc39).2 (by decide) (by decide) k) ?_
              show ownFin _ _ _ _ _ (T28.setTop (mkF m 183 #[.val (.int p1), .val (.int p2), .val (.ref b1), .val (.int raw), .val (.int cv), s5] []))
              exact J183 (own_xc0 (by omega))
      case neg =>
        have hc36I : ¬ cv.toInt < 32 := fun q => hc36 ((own_lti rfl (by decide)).mpr q)
        refine ownVia (fun _ k => XS.icmpYes X28.here hx rfl (pc0 := 131) (pc' := 155) rfl (hb hby at_131) rfl (flt hc36).2.1 (by decide) (by decide) k) ?_
        show ownFin _ _ _ _ _ (T28.setTop (mkF m 155 #[.val (.int p1), .val (.int p2), .val (.ref b1), .val (.int raw), .val (.int cv), s5] []))
        exact J155 (by omega)
  have J106 : ∀ (raw : Int32) (s4 s5 : Slot) (hs4 : One s4) (hs5 : One s5), ownFin p e below (ownFE s room_1.cells room_1.slots) (Q_own_law Z p1 p2 h0 n0 ) (T28.setTop (mkF m 106 #[.val (.int p1), .val (.int p2), .val (.ref b1), .val (.int raw), s4, s5] [])) := by
    intro raw s4 s5 hs4 hs5
    show ownFin _ _ _ _ _ (T28.setTop (mkF m 106 #[.val (.int p1), .val (.int p2), .val (.ref b1), .val (.int raw), s4, s5] []))
    refine ownVia (fun _ k => XS.iloadN X28.here hx rfl (hb hby at_106) rfl k) ?_
    show ownFin _ _ _ _ _ (T28.setTop (mkF m 107 #[.val (.int p1), .val (.int p2), .val (.ref b1), .val (.int raw), s4, s5] [(.int raw)]))
    refine ownVia (fun _ k => X28.ldcInt hx hown (mvT hZ (hw _ (List.mem_of_getElem? (i := 6) rfl))) (g := (mkF m 107 #[.val (.int p1), .val (.int p2), .val (.ref b1), .val (.int raw), s4, s5] [(.int raw)])) rfl (hb hby at_107) _ k) ?_
    show ownFin _ _ _ _ _ (T28.setTop (mkF m 109 #[.val (.int p1), .val (.int p2), .val (.ref b1), .val (.int raw), s4, s5] [(.int (1114111 : Int32)), (.int raw)]))
    by_cases hc40 : (1114111 : Int32) < raw
    case pos =>
      have hc40I : 1114111 < raw.toInt := (own_lti (by decide) rfl).mp hc40
      refine ownVia (fun _ k => XS.icmpNo X28.here hx rfl (hb hby at_109) rfl (tlt hc40).2.2.2 k) ?_
      show ownFin _ _ _ _ _ (T28.setTop (mkF m 112 #[.val (.int p1), .val (.int p2), .val (.ref b1), .val (.int raw), s4, s5] []))
      refine ownVia (fun _ k => XS.iloadN X28.here hx rfl (hb hby at_112) rfl k) ?_
      show ownFin _ _ _ _ _ (T28.setTop (mkF m 113 #[.val (.int p1), .val (.int p2), .val (.ref b1), .val (.int raw), s4, s5] [(.int raw)]))
      refine ownVia (fun _ k => X28.ldcInt hx hown (mvT hZ (hw _ (List.mem_of_getElem? (i := 13) rfl))) (g := (mkF m 113 #[.val (.int p1), .val (.int p2), .val (.ref b1), .val (.int raw), s4, s5] [(.int raw)])) rfl (hb hby at_113) _ k) ?_
      show ownFin _ _ _ _ _ (T28.setTop (mkF m 115 #[.val (.int p1), .val (.int p2), .val (.ref b1), .val (.int raw), s4, s5] [(.int (1114112 : Int32)), (.int raw)]))
      refine ownVia (fun _ k => iremM X28 hx rfl (hb hby at_115) rfl (by decide) k) ?_
      show ownFin _ _ _ _ _ (T28.setTop (mkF m 116 #[.val (.int p1), .val (.int p2), .val (.ref b1), .val (.int raw), s4, s5] [(.int (raw % (1114112 : Int32)))]))
      refine ownVia (fun _ k => XS.goto X28.here hx rfl (pc0 := 116) (pc' := 120) rfl (hb hby at_116) (by decide) (by decide) k) ?_
      show ownFin _ _ _ _ _ (T28.setTop (mkF m 120 #[.val (.int p1), .val (.int p2), .val (.ref b1), .val (.int raw), s4, s5] [(.int (raw % (1114112 : Int32)))]))
      refine ownVia (fun _ k => XS.istoreS X28.here hx rfl (hb hby at_120) rfl rfl hs4 k) ?_
      show ownFin _ _ _ _ _ (T28.setTop (mkF m 122 #[.val (.int p1), .val (.int p2), .val (.ref b1), .val (.int raw), .val (.int (raw % (1114112 : Int32))), s5] []))
      exact J122 _ _ _ hs5 (own_rem _ hc40I)
    case neg =>
      have hc40I : ¬ 1114111 < raw.toInt := fun q => hc40 ((own_lti (by decide) rfl).mpr q)
      refine ownVia (fun _ k => XS.icmpYes X28.here hx rfl (pc0 := 109) (pc' := 119) rfl (hb hby at_109) rfl (flt hc40).2.2.2 (by decide) (by decide) k) ?_
      show ownFin _ _ _ _ _ (T28.setTop (mkF m 119 #[.val (.int p1), .val (.int p2), .val (.ref b1), .val (.int raw), s4, s5] []))
      refine ownVia (fun _ k => XS.iloadN X28.here hx rfl (hb hby at_119) rfl k) ?_
      show ownFin _ _ _ _ _ (T28.setTop (mkF m 120 #[.val (.int p1), .val (.int p2), .val (.ref b1), .val (.int raw), s4, s5] [(.int raw)]))
      refine ownVia (fun _ k => XS.istoreS X28.here hx rfl (hb hby at_120) rfl rfl hs4 k) ?_
      show ownFin _ _ _ _ _ (T28.setTop (mkF m 122 #[.val (.int p1), .val (.int p2), .val (.ref b1), .val (.int raw), .val (.int raw), s5] []))
      exact J122 _ _ _ hs5 (by omega)
  by_cases hc41 : (p2 &&& (1 : Int32)) = (0 : Int32)
  case pos =>
    have hc41I : (p2 &&& (1 : Int32)).toInt = 0 := (own_eqi rfl (by decide)).mp hc41
    refine ownVia (fun _ k => XS.ifNo X28.here hx rfl (hb hby at_72) rfl ((if0 _ _).trans (teq hc41).2) k) ?_
    show ownFin _ _ _ _ _ (T28.setTop (mkF m 75 #[.val (.int p1), .val (.int p2), .val (.ref b1), .unset, .unset, .unset] []))
    refine ownVia (fun _ k => XS.iloadN X28.here hx rfl (hb hby at_75) rfl k) ?_
    show ownFin _ _ _ _ _ (T28.setTop (mkF m 76 #[.val (.int p1), .val (.int p2), .val (.ref b1), .unset, .unset, .unset] [(.int p1)]))
    refine ownVia (fun _ k => XS.istoreN X28.here hx rfl (hb hby at_76) rfl (l' := #[.val (.int p1), .val (.int p2), .val (.ref b1), .val (.int p1), .unset, .unset]) rfl k) ?_
    show ownFin _ _ _ _ _ (T28.setTop (mkF m 77 #[.val (.int p1), .val (.int p2), .val (.ref b1), .val (.int p1), .unset, .unset] []))
    refine ownVia (fun _ k => XS.goto X28.here hx rfl (pc0 := 77) (pc' := 106) rfl (hb hby at_77) (by decide) (by decide) k) ?_
    show ownFin _ _ _ _ _ (T28.setTop (mkF m 106 #[.val (.int p1), .val (.int p2), .val (.ref b1), .val (.int p1), .unset, .unset] []))
    exact J106 _ _ _ One.u One.u
  case neg =>
    have hc41I : ¬ (p2 &&& (1 : Int32)).toInt = 0 := fun q => hc41 ((own_eqi rfl (by decide)).mpr q)
    refine ownVia (fun _ k => XS.ifYes X28.here hx rfl (pc0 := 72) (pc' := 80) rfl (hb hby at_72) rfl ((if0 _ _).trans (feq hc41).2) (by decide) (by decide) k) ?_
    show ownFin _ _ _ _ _ (T28.setTop (mkF m 80 #[.val (.int p1), .val (.int p2), .val (.ref b1), .unset, .unset, .unset] []))
    refine ownVia (fun _ k => XS.iloadN X28.here hx rfl (hb hby at_80) rfl k) ?_
    show ownFin _ _ _ _ _ (T28.setTop (mkF m 81 #[.val (.int p1), .val (.int p2), .val (.ref b1), .unset, .unset, .unset] [(.int p2)]))
    refine ownVia (fun _ k => XS.iconst X28.here hx rfl (hb hby at_81) k) ?_
    show ownFin _ _ _ _ _ (T28.setTop (mkF m 82 #[.val (.int p1), .val (.int p2), .val (.ref b1), .unset, .unset, .unset] [(.int (1 : Int32)), (.int p2)]))
    refine ownVia (fun _ k => XS.iushr X28.here hx rfl (hb hby at_82) rfl k) ?_
    show ownFin _ _ _ _ _ (T28.setTop (mkF m 83 #[.val (.int p1), .val (.int p2), .val (.ref b1), .unset, .unset, .unset] [(.int ((p2.toUInt32 >>> ((1 : Int32) &&& 31).toUInt32).toInt32))]))
    refine ownVia (fun _ k => XS.bipush X28.here hx rfl (hb hby at_83) k) ?_
    show ownFin _ _ _ _ _ (T28.setTop (mkF m 85 #[.val (.int p1), .val (.int p2), .val (.ref b1), .unset, .unset, .unset] [(.int (12 : Int32)), (.int ((p2.toUInt32 >>> ((1 : Int32) &&& 31).toUInt32).toInt32))]))
    refine ownVia (fun _ k => iremM X28 hx rfl (hb hby at_85) rfl (by decide) k) ?_
    show ownFin _ _ _ _ _ (T28.setTop (mkF m 86 #[.val (.int p1), .val (.int p2), .val (.ref b1), .unset, .unset, .unset] [(.int (((p2.toUInt32 >>> ((1 : Int32) &&& 31).toUInt32).toInt32) % (12 : Int32)))]))
    refine ownVia (fun _ k => XS.istore X28.here hx rfl (hb hby at_86) rfl (l' := #[.val (.int p1), .val (.int p2), .val (.ref b1), .unset, .val (.int (((p2.toUInt32 >>> ((1 : Int32) &&& 31).toUInt32).toInt32) % (12 : Int32))), .unset]) rfl k) ?_
    show ownFin _ _ _ _ _ (T28.setTop (mkF m 88 #[.val (.int p1), .val (.int p2), .val (.ref b1), .unset, .val (.int (((p2.toUInt32 >>> ((1 : Int32) &&& 31).toUInt32).toInt32) % (12 : Int32))), .unset] []))
    refine ownVia (fun _ k => XS.iloadN X28.here hx rfl (hb hby at_88) rfl k) ?_
    show ownFin _ _ _ _ _ (T28.setTop (mkF m 89 #[.val (.int p1), .val (.int p2), .val (.ref b1), .unset, .val (.int (((p2.toUInt32 >>> ((1 : Int32) &&& 31).toUInt32).toInt32) % (12 : Int32))), .unset] [(.int p2)]))
    refine ownVia (fun _ k => XS.bipush X28.here hx rfl (hb hby at_89) k) ?_
    show ownFin _ _ _ _ _ (T28.setTop (mkF m 91 #[.val (.int p1), .val (.int p2), .val (.ref b1), .unset, .val (.int (((p2.toUInt32 >>> ((1 : Int32) &&& 31).toUInt32).toInt32) % (12 : Int32))), .unset] [(.int (8 : Int32)), (.int p2)]))
    refine ownVia (fun _ k => XS.iushr X28.here hx rfl (hb hby at_91) rfl k) ?_
    show ownFin _ _ _ _ _ (T28.setTop (mkF m 92 #[.val (.int p1), .val (.int p2), .val (.ref b1), .unset, .val (.int (((p2.toUInt32 >>> ((1 : Int32) &&& 31).toUInt32).toInt32) % (12 : Int32))), .unset] [(.int ((p2.toUInt32 >>> ((8 : Int32) &&& 31).toUInt32).toInt32))]))
    refine ownVia (fun _ k => XS.iconst X28.here hx rfl (hb hby at_92) k) ?_
    show ownFin _ _ _ _ _ (T28.setTop (mkF m 93 #[.val (.int p1), .val (.int p2), .val (.ref b1), .unset, .val (.int (((p2.toUInt32 >>> ((1 : Int32) &&& 31).toUInt32).toInt32) % (12 : Int32))), .unset] [(.int (3 : Int32)), (.int ((p2.toUInt32 >>> ((8 : Int32) &&& 31).toUInt32).toInt32))]))
    refine ownVia (fun _ k => iremM X28 hx rfl (hb hby at_93) rfl (by decide) k) ?_
    show ownFin _ _ _ _ _ (T28.setTop (mkF m 94 #[.val (.int p1), .val (.int p2), .val (.ref b1), .unset, .val (.int (((p2.toUInt32 >>> ((1 : Int32) &&& 31).toUInt32).toInt32) % (12 : Int32))), .unset] [(.int (((p2.toUInt32 >>> ((8 : Int32) &&& 31).toUInt32).toInt32) % (3 : Int32)))]))
    refine ownVia (fun _ k => XS.iconst X28.here hx rfl (hb hby at_94) k) ?_
    show ownFin _ _ _ _ _ (T28.setTop (mkF m 95 #[.val (.int p1), .val (.int p2), .val (.ref b1), .unset, .val (.int (((p2.toUInt32 >>> ((1 : Int32) &&& 31).toUInt32).toInt32) % (12 : Int32))), .unset] [(.int (1 : Int32)), (.int (((p2.toUInt32 >>> ((8 : Int32) &&& 31).toUInt32).toInt32) % (3 : Int32)))]))
    refine ownVia (fun _ k => XS.isub X28.here hx rfl (hb hby at_95) rfl k) ?_
    show ownFin _ _ _ _ _ (T28.setTop (mkF m 96 #[.val (.int p1), .val (.int p2), .val (.ref b1), .unset, .val (.int (((p2.toUInt32 >>> ((1 : Int32) &&& 31).toUInt32).toInt32) % (12 : Int32))), .unset] [(.int ((((p2.toUInt32 >>> ((8 : Int32) &&& 31).toUInt32).toInt32) % (3 : Int32)) - (1 : Int32)))]))
    refine ownVia (fun _ k => XS.istore X28.here hx rfl (hb hby at_96) rfl (l' := #[.val (.int p1), .val (.int p2), .val (.ref b1), .unset, .val (.int (((p2.toUInt32 >>> ((1 : Int32) &&& 31).toUInt32).toInt32) % (12 : Int32))), .val (.int ((((p2.toUInt32 >>> ((8 : Int32) &&& 31).toUInt32).toInt32) % (3 : Int32)) - (1 : Int32)))]) rfl k) ?_
    show ownFin _ _ _ _ _ (T28.setTop (mkF m 98 #[.val (.int p1), .val (.int p2), .val (.ref b1), .unset, .val (.int (((p2.toUInt32 >>> ((1 : Int32) &&& 31).toUInt32).toInt32) % (12 : Int32))), .val (.int ((((p2.toUInt32 >>> ((8 : Int32) &&& 31).toUInt32).toInt32) % (3 : Int32)) - (1 : Int32)))] []))
    refine ownVia (fun _ k => XS.aloadN X28.here hx rfl (hb hby at_98) rfl rfl k) ?_
    show ownFin _ _ _ _ _ (T28.setTop (mkF m 99 #[.val (.int p1), .val (.int p2), .val (.ref b1), .unset, .val (.int (((p2.toUInt32 >>> ((1 : Int32) &&& 31).toUInt32).toInt32) % (12 : Int32))), .val (.int ((((p2.toUInt32 >>> ((8 : Int32) &&& 31).toUInt32).toInt32) % (3 : Int32)) - (1 : Int32)))] [(.ref b1)]))
    refine ownVia (fun _ k => XS.iload X28.here hx rfl (hb hby at_99) rfl k) ?_
    show ownFin _ _ _ _ _ (T28.setTop (mkF m 101 #[.val (.int p1), .val (.int p2), .val (.ref b1), .unset, .val (.int (((p2.toUInt32 >>> ((1 : Int32) &&& 31).toUInt32).toInt32) % (12 : Int32))), .val (.int ((((p2.toUInt32 >>> ((8 : Int32) &&& 31).toUInt32).toInt32) % (3 : Int32)) - (1 : Int32)))] [(.int (((p2.toUInt32 >>> ((1 : Int32) &&& 31).toUInt32).toInt32) % (12 : Int32))), (.ref b1)]))
    refine ownIaload X28 hx hZ e28 A_b1 (own_idx (by decide) (own_i12 p2).1 (own_i12 p2).2) (v := (.int (own_tab.getD ((((p2.toUInt32 >>> ((1 : Int32) &&& 31).toUInt32).toInt32) % (12 : Int32))).toNatClampNeg 0))) (own_getD_map Value.int 0 own_tab _) (hb hby at_101) ?_
    show ownFin _ _ _ _ _ (T28.setTop (mkF m 102 #[.val (.int p1), .val (.int p2), .val (.ref b1), .unset, .val (.int (((p2.toUInt32 >>> ((1 : Int32) &&& 31).toUInt32).toInt32) % (12 : Int32))), .val (.int ((((p2.toUInt32 >>> ((8 : Int32) &&& 31).toUInt32).toInt32) % (3 : Int32)) - (1 : Int32)))] [(.int (own_tab.getD ((((p2.toUInt32 >>> ((1 : Int32) &&& 31).toUInt32).toInt32) % (12 : Int32))).toNatClampNeg 0))]))
    refine ownVia (fun _ k => XS.iload X28.here hx rfl (hb hby at_102) rfl k) ?_
    show ownFin _ _ _ _ _ (T28.setTop (mkF m 104 #[.val (.int p1), .val (.int p2), .val (.ref b1), .unset, .val (.int (((p2.toUInt32 >>> ((1 : Int32) &&& 31).toUInt32).toInt32) % (12 : Int32))), .val (.int ((((p2.toUInt32 >>> ((8 : Int32) &&& 31).toUInt32).toInt32) % (3 : Int32)) - (1 : Int32)))] [(.int ((((p2.toUInt32 >>> ((8 : Int32) &&& 31).toUInt32).toInt32) % (3 : Int32)) - (1 : Int32))), (.int (own_tab.getD ((((p2.toUInt32 >>> ((1 : Int32) &&& 31).toUInt32).toInt32) % (12 : Int32))).toNatClampNeg 0))]))
    refine ownVia (fun _ k => XS.iadd X28.here hx rfl (hb hby at_104) rfl k) ?_
    show ownFin _ _ _ _ _ (T28.setTop (mkF m 105 #[.val (.int p1), .val (.int p2), .val (.ref b1), .unset, .val (.int (((p2.toUInt32 >>> ((1 : Int32) &&& 31).toUInt32).toInt32) % (12 : Int32))), .val (.int ((((p2.toUInt32 >>> ((8 : Int32) &&& 31).toUInt32).toInt32) % (3 : Int32)) - (1 : Int32)))] [(.int ((own_tab.getD ((((p2.toUInt32 >>> ((1 : Int32) &&& 31).toUInt32).toInt32) % (12 : Int32))).toNatClampNeg 0) + ((((p2.toUInt32 >>> ((8 : Int32) &&& 31).toUInt32).toInt32) % (3 : Int32)) - (1 : Int32))))]))
    refine ownVia (fun _ k => XS.istoreN X28.here hx rfl (hb hby at_105) rfl (l' := #[.val (.int p1), .val (.int p2), .val (.ref b1), .val (.int ((own_tab.getD ((((p2.toUInt32 >>> ((1 : Int32) &&& 31).toUInt32).toInt32) % (12 : Int32))).toNatClampNeg 0) + ((((p2.toUInt32 >>> ((8 : Int32) &&& 31).toUInt32).toInt32) % (3 : Int32)) - (1 : Int32)))), .val (.int (((p2.toUInt32 >>> ((1 : Int32) &&& 31).toUInt32).toInt32) % (12 : Int32))), .val (.int ((((p2.toUInt32 >>> ((8 : Int32) &&& 31).toUInt32).toInt32) % (3 : Int32)) - (1 : Int32)))]) rfl k) ?_
    show ownFin _ _ _ _ _ (T28.setTop (mkF m 106 #[.val (.int p1), .val (.int p2), .val (.ref b1), .val (.int ((own_tab.getD ((((p2.toUInt32 >>> ((1 : Int32) &&& 31).toUInt32).toInt32) % (12 : Int32))).toNatClampNeg 0) + ((((p2.toUInt32 >>> ((8 : Int32) &&& 31).toUInt32).toInt32) % (3 : Int32)) - (1 : Int32)))), .val (.int (((p2.toUInt32 >>> ((1 : Int32) &&& 31).toUInt32).toInt32) % (12 : Int32))), .val (.int ((((p2.toUInt32 >>> ((8 : Int32) &&& 31).toUInt32).toInt32) % (3 : Int32)) - (1 : Int32)))] []))
    exact J106 _ _ _ (One.val rfl) (One.val rfl)
set_option maxRecDepth 65536 in
set_option maxHeartbeats 40000000 in
theorem own_comes {Post : Tables → Env → Array Value → State → Outcome → State → Prop} (hpost : ∀ tb e args s v u, (limb_1_1.after args s (.returned v) u = true ∧ limb_1_2.after args s (.returned v) u = true ∧ True) → FrameEnd s (.returned v) u (Jvm.fieldLocs frame_1_writes args s ++ Jvm.arrayLocs frame_1_arrays args s ++ Jvm.staticLocs frame_1_statics s) 16 128 → Post tb e args s (.returned v) u) :
    ArmFor flags0 classFile x code maxLocals ret World_1 tables_1 room_1 Calls_1 rest_1 Pre_1 Post := by
  intro l hfl _ _ p e ha hc hk s m args below hf hA hF happ hP
  obtain ⟨hcalls, hrest, hpre⟩ := hP
  obtain ⟨-, -, -, hnamed, -, -, -, hat⟩ := (Spec.applies_iff hf).mp happ
  obtain ⟨hg, hn⟩ := and_e (Cond.before_iff.mp (show (Jvm.Cond.and given_1 narrow_1).before args s = true from hpre))
  obtain ⟨hcount, hg0⟩ := and_e hg
  obtain ⟨w0, w1, rfl⟩ : ∃ w0 w1 : Value, args = #[w0, w1] := by
    have hs : args.size = 2 := by simpa [Cond.value, given_1] using hcount
    obtain ⟨L⟩ := args
    match L, hs with
    | [w0, w1], _ => exact ⟨w0, w1, rfl⟩
  have hw := fun d (hd : d ∈ tables_1) => atoms_spec (ws := Jvm.Cond.code x code maxLocals ret :: tables_1) hat d (List.mem_cons_of_mem _ hd)
  have hfit : Fit s := fun {y c} hc i hi => by
    obtain ⟨ha, rfl⟩ := Array.getElem?_eq_some_iff.mp hc
    have q := List.all_eq_true.mp ((Array.all_eq_true_iff_forall_mem.mp hF) _ (Array.getElem_mem ha)) i (List.mem_range.mpr hi)
    simpa [Array.getElem?_eq_getElem hi] using q
  obtain ⟨hq0, hg1⟩ := and_e hg0
  obtain ⟨i0, ei0⟩ := is_v hq0
  obtain rfl : w0 = (.int i0) := Option.some.inj ei0
  obtain ⟨i1, ei1⟩ := is_v hg1
  obtain rfl : w1 = (.int i1) := Option.some.inj ei1
  obtain ⟨n, o, h1, h2, h3, _, L, rfl, ⟨rfl, N⟩, hq⟩ := own_law l s _ hw tables_1 i0 i1 s.heap s.heap.size  (Nat.le_refl _)  p e ha hc hk s m _ below hf ((Spec.applies_iff_loose hf).mp happ).1 ⟨rfl, State.Warmed39.refl s, rfl⟩ trivial
  refine ⟨n, _, h1, h2, h3, hpost _ _ _ _ _ _ ⟨Cond.after_iff.mpr rfl, Cond.after_iff.mpr (eq_i res_at (Term.int_eval (1)) rfl), trivial⟩ ⟨hq.1, hq.2.1, (hq.2.2.sift fun y hy => Or.inr (N y hy)).mono (by decide) (by decide)⟩⟩
theorem main_1_1 : Claimed_1_1 := own_comes fun _ _ _ _ _ _ h hF => ⟨h.1, hF⟩
theorem main_1_2 : Claimed_1_2 := own_comes fun _ _ _ _ _ _ h hF => ⟨h.2.1, hF⟩
end Jvm.Pilot.@@N@@
namespace Jvm.Pilot.@@N@@
open Jvm Jvm.ClassFile Sem Op Lib Jvm.Free Jvm.Stand Jvm.Pilot.@@N@@.Jvm.D
/-! MADE BY PROGRAM (witnessworld.py) out of the Statement's table words and the real class files: 9 classes; the members and pool entries that the words name. The judged class is class 1, her method 1. -/
namespace start1
open Jvm.ClassFile
def u (s : String) : CpInfo := .utf8 (stringToUtf16 s)
/-- a pool by its gaps: so many unusable entries, then the entry; so many at the end -/
def gap : Nat → List CpInfo → List CpInfo
  | 0, r => r
  | n + 1, r => .unusable :: gap n r
def poolList (es : List (Nat × CpInfo)) (last : Nat) : List CpInfo := es.foldr (fun e r => gap e.1 (e.2 :: r)) (gap last [])
def pool (es : List (Nat × CpInfo)) (last : Nat) : Array CpInfo := ⟨poolList es last⟩
def fileOf (pool : Array CpInfo) (this : Nat) (attrs : Array Attribute := #[]) (ms : Array MethodInfo := #[]) (fl : Nat := 33) (sup : Nat := 0) (ifs : Array Nat := #[]) (fds : Array FieldInfo := #[]) : ClassFile where
  minorVersion := 0
  majorVersion := 65
  constantPool := pool
  accessFlags := fl
  thisClass := this
  superClass := sup
  interfaces := ifs
  fields := fds
  methods := ms
  attributes := attrs
def plain (name : String) (sup : Option ClassId) : Class where
  name := name
  kind := .ordinary
  loader := none
  accessFlags := 33
  super := sup
  interfaces := #[]
  cf := none
  fields := #[]
  methods := #[]
  instanceTypes := #[]
  staticTypes := #[]
  resolved := #[]
  callSites := []
  init := .initialized
  statics := none
  mirror := none

def pool0 : Array CpInfo := pool [(5, u "<init>"), (0, u "()V"), (1, .class_ 10), (1, u "java/lang/Object")] 113

def k0m0 : Method := { name := "<init>", desc := "()V", sig := { parameters := [], returnType := none }, accessFlags := 1, code := none }
/-- java/lang/Object -/
def k0 : Class := { plain "java/lang/Object" none with
  accessFlags := 33
  interfaces := #[]
  cf := some (fileOf pool0 8 #[] #[{ accessFlags := 1, nameIndex := 5, descriptorIndex := 6, attributes := #[] }] 33 0 #[] #[])
  fields := #[]
  methods := #[k0m0]
  instanceTypes := #[]
  staticTypes := #[]
  resolved := Array.replicate 124 none
  statics := none }

def pool1 : Array CpInfo := pool [(2, .class_ 4), (1, u "java/lang/Object"), (0, u "<init>"), (0, u "()V"), (2, .integer 2147483648), (0, .integer 55295), (0, .integer 57343), (0, .integer 65533), (0, .integer 65535), (0, .integer 1114111), (0, .integer 1114112), (0, .integer 55296), (0, .integer 65534), (0, .methodref 19 20), (0, .class_ 21), (0, .nameAndType 22 23), (0, u "com/example/tillbridge/tillbridge/codec/FlatXmlReader"), (0, u "isXmlCharacter"), (0, u "(I)Z"), (0, .class_ 25), (0, u "com/example/tillbridge/tillbridge/codec/FlatXmlReaderIsXmlCharacterPinLaw"), (2, u "law"), (0, u "(II)Z")] 5

def k1m0 : Method := { name := "<init>", desc := "()V", sig := { parameters := [], returnType := none }, accessFlags := 2, code := none }
def k1c1 : Code := { maxStack := 4, maxLocals := 6, code := code, exceptionTable := #[], attributes := #[] }
def k1m1 : Method := { name := "law", desc := "(II)Z", sig := { parameters := [.int, .int], returnType := some .boolean }, accessFlags := 9, code := some k1c1 }
/-- com/example/tillbridge/tillbridge/codec/FlatXmlReaderIsXmlCharacterPinLaw -/
def k1 : Class := { plain "com/example/tillbridge/tillbridge/codec/FlatXmlReaderIsXmlCharacterPinLaw" (some 0) with
  accessFlags := 49
  interfaces := #[]
  cf := some (fileOf pool1 24 #[] #[{ accessFlags := 2, nameIndex := 5, descriptorIndex := 6, attributes := #[] }, { accessFlags := 9, nameIndex := 28, descriptorIndex := 29, attributes := #[] }] 49 2 #[] #[])
  fields := #[]
  methods := #[k1m0, k1m1]
  instanceTypes := #[]
  staticTypes := #[]
  resolved := Array.replicate 35 none
  statics := none }

def pool2 : Array CpInfo := pool [(2, .class_ 4), (1, u "java/lang/Object"), (3, .class_ 10), (1, u "com/example/tillbridge/tillbridge/codec/FlatXmlReader"), (0, u "text"), (0, u "Ljava/lang/String;"), (43, u "position"), (0, u "I"), (205, u "isXmlCharacter"), (0, u "(I)Z"), (124, .integer 55295), (0, .integer 57344), (0, .integer 65533), (0, .integer 65536), (7, u "DOCTYPE")] 64

def k2c0 : Code := { maxStack := 2, maxLocals := 1, code := prog_145_method_28_code, exceptionTable := #[], attributes := #[] }
def k2m0 : Method := { name := "isXmlCharacter", desc := "(I)Z", sig := { parameters := [.int], returnType := some .boolean }, accessFlags := 8, code := some k2c0 }
/-- com/example/tillbridge/tillbridge/codec/FlatXmlReader -/
def k2 : Class := { plain "com/example/tillbridge/tillbridge/codec/FlatXmlReader" (some 0) with
  accessFlags := 48
  interfaces := #[]
  cf := some (fileOf pool2 8 #[] #[{ accessFlags := 8, nameIndex := 263, descriptorIndex := 264, attributes := #[] }] 48 2 #[] #[{ accessFlags := 26, nameIndex := 400, descriptorIndex := 12, attributes := #[] }, { accessFlags := 18, nameIndex := 11, descriptorIndex := 12, attributes := #[] }, { accessFlags := 2, nameIndex := 56, descriptorIndex := 57, attributes := #[] }])
  fields := #[{ name := "DOCTYPE", type := (.object "java/lang/String"), accessFlags := 26, slot := 0, constantValue := 0 }, { name := "text", type := (.object "java/lang/String"), accessFlags := 18, slot := 0, constantValue := 0 }, { name := "position", type := .int, accessFlags := 2, slot := 1, constantValue := 0 }]
  methods := #[k2m0]
  instanceTypes := #[(.object "java/lang/String"), .int]
  staticTypes := #[(.object "java/lang/String")]
  resolved := Array.replicate 465 none
  statics := none }

def pool3 : Array CpInfo := pool [(1, u "java/lang/Cloneable"), (0, .class_ 1), (0, u "java/lang/Object"), (0, .class_ 3)] 3

/-- java/lang/Cloneable -/
def k3 : Class := { plain "java/lang/Cloneable" (some 0) with
  accessFlags := 1537
  interfaces := #[]
  cf := some (fileOf pool3 2 #[] #[] 1537 4 #[] #[])
  fields := #[]
  methods := #[]
  instanceTypes := #[]
  staticTypes := #[]
  resolved := Array.replicate 8 none
  statics := none }

def pool4 : Array CpInfo := pool [(1, u "java/io/Serializable"), (0, .class_ 1), (0, u "java/lang/Object"), (0, .class_ 3)] 3

/-- java/io/Serializable -/
def k4 : Class := { plain "java/io/Serializable" (some 0) with
  accessFlags := 1537
  interfaces := #[]
  cf := some (fileOf pool4 2 #[] #[] 1537 4 #[] #[])
  fields := #[]
  methods := #[]
  instanceTypes := #[]
  staticTypes := #[]
  resolved := Array.replicate 8 none
  statics := none }

/-- the primitive byte -/
def k5 : Class := { plain "byte" none with kind := .primitive 'B', accessFlags := 0x411 }
/-- [B -/
def k6 : Class := { plain "[B" (some 0) with kind := .array 5 .byte, interfaces := #[3, 4], accessFlags := 1041 }

/-- the primitive int -/
def k7 : Class := { plain "int" none with kind := .primitive 'I', accessFlags := 0x411 }
/-- [I -/
def k8 : Class := { plain "[I" (some 0) with kind := .array 7 .int, interfaces := #[3, 4], accessFlags := 1041 }

def heap : Heap := #[]
def classes : Array Class := #[k0, k1, k2, k3, k4, k5, k6, k7, k8]
def interned : List (Array UInt16 × Addr) := []
def slotsUsed : Nat := 0
def theMethod : MethodId := ⟨1, 1⟩
def args0 : Array Value := #[.int 5, .int 3]
def aboutOver (below : List Frame) : State where
  vm := { classes := classes, interned := interned.toArray }
  heap := heap
  slotsUsed := slotsUsed
  threads := #[{ frames := .invoking theMethod args0 :: below }]
def below0 : List Frame := [.native { method := ⟨0, 0⟩, args := #[] }]
def about1 : State := aboutOver below0
def p0 : Program := .bare "" "" ""
def e0 : Env := launch0.env 0 0 0
theorem w_frames : about1.frames = Frame.invoking theMethod args0 :: below0 := rfl
set_option maxRecDepth 65536 in
theorem w_args : argsFit about1.vm theMethod args0 = true := by decide +kernel
set_option maxRecDepth 65536 in
theorem w_heap : heapFits about1 = true := by decide +kernel
set_option maxRecDepth 65536 in
theorem w_runnable : about1.curStatus? = some .runnable := by decide +kernel
set_option maxRecDepth 65536 in
theorem w_alone : about1.alone = true := by decide +kernel
set_option maxRecDepth 65536 in
theorem w_named : about1.methodNamed? x = some theMethod := by decide +kernel
set_option maxRecDepth 65536 in
theorem w_hears : about1.hears theMethod below0 = true := by decide +kernel
set_option maxRecDepth 65536 in
theorem w_ripe : about1.ripe theMethod args0 below0 = true := by decide +kernel
theorem w_running : about1.status = .running := rfl
set_option maxRecDepth 65536 in
theorem w_room : about1.hasRoom e0.platform room_1 = true :=
  launch0.hasRoom_least _ room_1 (by decide +kernel) (by decide +kernel) (by decide +kernel) (by decide +kernel) (by decide +kernel) (by decide +kernel)
theorem allAtoms_all (ts : List Jvm.Cond) (a : Array Jvm.Value) (st : Jvm.State) : (allAtoms ts).before a st = ts.all (fun c => c.before a st) := by
  induction ts with
  | nil => rfl
  | cons c t ih =>
    show (Jvm.Cond.and c (allAtoms t)).before a st = _
    rw [Jvm.Cond.before_and, ih, List.all_cons]
def words1 : List Jvm.Cond := Jvm.Cond.code x code maxLocals ret :: tables_1
/-- a 'code' word, met by the world's own term for the bytes: nothing is compared byte by byte -/
theorem code_word {y : MethodName} {bytes : ByteArray} {mx : Nat} {rt : Option FieldType} {a : Array Value} {s : State} {m : MethodId} {meth : Method} {c : Code} (h1 : s.methodNamed? y = some m) (h2 : s.vm.method? m = some meth) (h3 : meth.code = some c) (h4 : c.code = bytes)
    (h5 : (c.maxLocals == mx && c.exceptionTable.isEmpty && decide (c.maxStack ≤ mostOperands) && decide (meth.sig.returnType = rt) && !meth.locks && decide (parseMethodDescriptor y.desc = some meth.sig)) = true) : (Jvm.Cond.code y bytes mx rt).before a s = true := by
  simp only [Bool.and_eq_true, beq_iff_eq, Bool.not_eq_true', decide_eq_true_eq] at h5
  obtain ⟨⟨⟨⟨⟨g1, g2⟩, g3⟩, g4⟩, g5⟩, g6⟩ := h5
  simp [Cond.before, Cond.holds, Cond.value, h1, h2, h3, h4, g1, g2, g3, g4, g5, g6]
def isCode : Jvm.Cond → Bool
  | .code _ _ _ _ => true
  | _ => false
theorem all_split {L : List Jvm.Cond} {P : Jvm.Cond → Bool} (h1 : L.all (fun c => isCode c || P c) = true) (h2 : ∀ c ∈ L.filter isCode, P c = true) : L.all P = true := by
  refine List.all_eq_true.mpr fun c hc => ?_
  have h := List.all_eq_true.mp h1 c hc
  rcases Bool.eq_false_or_eq_true (isCode c) with hi | hi
  · exact h2 c (List.mem_filter.mpr ⟨hc, hi⟩)
  · simpa [hi] using h
set_option maxRecDepth 65536 in
theorem w_c0 : (Jvm.Cond.code x code maxLocals ret).before args0 about1 = true := code_word (m := ⟨1, 1⟩) (meth := k1m1) (c := k1c1) (by decide +kernel) rfl rfl rfl (by decide +kernel)
set_option maxRecDepth 65536 in
theorem w_c1 : (Jvm.Cond.code ({ cls := "com/example/tillbridge/tillbridge/codec/FlatXmlReader", name := "isXmlCharacter", desc := "(I)Z" } : Jvm.MethodName) prog_145_method_28_code (1 : Nat) (Option.some Jvm.ClassFile.FieldType.boolean)).before args0 about1 = true := code_word (m := ⟨2, 0⟩) (meth := k2m0) (c := k2c0) (by decide +kernel) rfl rfl rfl (by decide +kernel)
def codes1 : List Jvm.Cond := [Jvm.Cond.code x code maxLocals ret, Jvm.Cond.code ({ cls := "com/example/tillbridge/tillbridge/codec/FlatXmlReader", name := "isXmlCharacter", desc := "(I)Z" } : Jvm.MethodName) prog_145_method_28_code (1 : Nat) (Option.some Jvm.ClassFile.FieldType.boolean)]
set_option maxRecDepth 65536 in
theorem codes_eq : words1.filter isCode = codes1 := rfl
theorem w_codes : ∀ c ∈ words1.filter isCode, c.before args0 about1 = true := by
  rw [codes_eq]
  intro c hc
  simp only [codes1, List.mem_cons, List.not_mem_nil, or_false] at hc
  rcases hc with rfl | rfl
  · exact w_c0
  · exact w_c1
set_option maxRecDepth 65536 in
theorem w_t1 : words1.all (fun c => isCode c || c.before args0 about1) = true := by decide +kernel
theorem w_tables : (allAtoms (Jvm.Cond.code x code maxLocals ret :: tables_1)).before args0 about1 = true := by
  rw [allAtoms_all]
  show words1.all (fun c => c.before args0 about1) = true
  refine all_split ?_ w_codes
  rw [w_t1]
set_option maxRecDepth 65536 in
theorem w_case : (Jvm.Cond.and given_1 narrow_1).before args0 about1 = true := by decide +kernel
theorem w_applies : (headSpec (Jvm.Cond.code x code maxLocals ret :: tables_1) room_1).applies x e0.platform about1 = true :=
  (Spec.applies_iff w_frames).mpr ⟨w_running, w_runnable, w_alone, w_named, w_hears, w_ripe, w_room, w_tables⟩
theorem atStart : AtStart classFile x code maxLocals ret World_1 tables_1 room_1 Calls_1 rest_1 Pre_1 launch0 p0 e0 about1 theMethod args0 below0 :=
  ⟨lists_1, trivial, launch0.admits_env _ _ _, launch0.least_env, fairChoices_fair.cas, fairChoices_fair.clock, w_frames, w_args, w_heap, w_applies, trivial, trivial, w_case⟩
end start1
theorem witness_1 : WitnessClaimed_1 := ⟨start1.p0, start1.e0, start1.about1, start1.theMethod, start1.args0, start1.below0, start1.atStart⟩
end Jvm.Pilot.@@N@@
