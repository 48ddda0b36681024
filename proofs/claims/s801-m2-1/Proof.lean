import JvmDerived
import JvmDerived.Pilot.@@N@@Statement
import JvmDerived.Pilot.@@N@@Code
set_option linter.unusedVariables false
set_option linter.unusedSimpArgs false
namespace Jvm.Pilot.@@N@@
open Jvm Jvm.ClassFile Sem Op Lib Jvm.Free Jvm.Stand Jvm.LawKit Jvm.RoadKit Bundle Jvm.Pilot.@@N@@.Jvm.D
section Own
variable {p : Program} {l : Launch} {e : Env} {R : Room} {s : State} {m : MethodId} {args : Array Value} {below : List Frame} {meth : Method} {c : Code} {T : State} {locs : List Loc} {cells slots : Nat} {Z : State} {a0 : Array Value} {h : Heap} {Q : Option Value → Heap → List Loc → Prop} {C S : Nat} {u u' : State} {F : Outcome → State → List Loc → Prop}
/-- from u the invocation comes to its end, and Q holds of what it returns, of the heap and of the places written -/
def ownFin (p : Program) (e : Env) (below : List Frame) (F : Outcome → State → List Loc → Prop) (Q : Option Value → Heap → List Loc → Prop) (u : State) : Prop :=
  ∃ t o, Steps p.tables e below u t ∧ t.status = .running ∧ Ended t below o ∧ ∃ v L, o = .returned v ∧ Q v t.heap L ∧ F o t L
/-- how it ends: at most C new cells of S slots, the tables warmer, nothing old written but at the places L -/
def ownFE (s : State) (C S : Nat) : Outcome → State → List Loc → Prop := fun o t L => FrameEnd s o t L C S
theorem ownVia (f : ∀ t, Steps p.tables e below u' t → Steps p.tables e below u t) (k : ownFin p e below F Q u') : ownFin p e below F Q u := by
  obtain ⟨t, o, h1, r⟩ := k
  exact ⟨t, o, f t h1, r⟩
theorem ownRet (X : Stand p l e R s m args below meth c T locs cells slots) (hlk : meth.locks = false) {v : Option Value} (hv : meth.sig.returnType = none → v = none)
    (f : ∀ fs, (∀ (f : JFrame) (acts : List Action), f.method = m → f.locked = none → f.entered = [] → (doReturn e (T.setTop f) acts v).1 = T.setFrames fs) → Steps p.tables e below u (T.setFrames fs))
    (hC : cells ≤ C) (hS : slots ≤ S) (hQ : Q v T.heap locs) : ownFin p e below (ownFE s C S) Q u := by
  obtain ⟨fs, hr, hrun, hended, hW, hsame⟩ := X.leave (v := v) hv hlk
  exact ⟨_, _, f fs hr, hrun, hended, v, _, rfl, hQ, ⟨_, rfl⟩, hW, hsame.mono hC hS⟩
theorem ownRetI (X : Stand p l e R s m args below meth c T locs cells slots) (hx : p.tables.exec = Jvm.exec) (hlk : meth.locks = false) (hret : meth.sig.returnType = some .int) {pc : Nat} {Ls : Array Slot} {z : Int32} {rest : List Value} (hd : decode c.code pc = .ok (.ireturn, 1)) (hC : cells ≤ C) (hS : slots ≤ S) (hQ : Q (some (.int z)) T.heap locs) : ownFin p e below (ownFE s C S) Q (T.setTop (mkF m pc Ls (.int z :: rest))) :=
  ownRet X hlk (v := some (.int z)) (fun q => by rw [hret] at q; cases q) (fun fs hr => retOut X hx hret rfl (Or.inl ⟨rfl, Or.inl rfl, z, rfl⟩) hd hr) hC hS hQ
theorem ownRetZ (X : Stand p l e R s m args below meth c T locs cells slots) (hx : p.tables.exec = Jvm.exec) (hlk : meth.locks = false) (hret : meth.sig.returnType = some .boolean) {pc : Nat} {Ls : Array Slot} {z : Int32} {rest : List Value} (hd : decode c.code pc = .ok (.ireturn, 1)) (hC : cells ≤ C) (hS : slots ≤ S) (hz : z = 0 ∨ z = 1) (hQ : Q (some (.int z)) T.heap locs) : ownFin p e below (ownFE s C S) Q (T.setTop (mkF m pc Ls (.int z :: rest))) :=
  ownRet X hlk (v := some (.int z)) (fun q => by rw [hret] at q; cases q) (fun fs hr => retOut X hx hret (by rcases hz with rfl | rfl <;> rfl) (Or.inl ⟨rfl, Or.inr (Or.inl rfl), z, rfl⟩) hd hr) hC hS hQ
theorem ownRetJ (X : Stand p l e R s m args below meth c T locs cells slots) (hx : p.tables.exec = Jvm.exec) (hlk : meth.locks = false) (hret : meth.sig.returnType = some .long) {pc : Nat} {Ls : Array Slot} {z : Int64} {rest : List Value} (hd : decode c.code pc = .ok (.lreturn, 1)) (hC : cells ≤ C) (hS : slots ≤ S) (hQ : Q (some (.long z)) T.heap locs) : ownFin p e below (ownFE s C S) Q (T.setTop (mkF m pc Ls (.long z :: rest))) :=
  ownRet X hlk (v := some (.long z)) (fun q => by rw [hret] at q; cases q) (fun fs hr => retOut X hx hret rfl (Or.inr (Or.inl ⟨rfl, rfl, z, rfl⟩)) hd hr) hC hS hQ
theorem ownRetA (X : Stand p l e R s m args below meth c T locs cells slots) (hx : p.tables.exec = Jvm.exec) (hlk : meth.locks = false) {ty : FieldType} (hret : meth.sig.returnType = some ty) (hty : ty.isReference = true) {pc : Nat} {Ls : Array Slot} {a : Addr} {rest : List Value} (hd : decode c.code pc = .ok (.areturn, 1)) (hC : cells ≤ C) (hS : slots ≤ S) (hQ : Q (some (.ref a)) T.heap locs) : ownFin p e below (ownFE s C S) Q (T.setTop (mkF m pc Ls (.ref a :: rest))) :=
  ownRet X hlk (v := some (.ref a)) (fun q => by rw [hret] at q; cases q) (fun fs hr => retOut X hx hret (by cases ty <;> first | rfl | cases hty) (Or.inr (Or.inr (Or.inr (Or.inr ⟨rfl, hty, rfl⟩)))) hd hr) hC hS hQ
theorem ownRetV (X : Stand p l e R s m args below meth c T locs cells slots) (hx : p.tables.exec = Jvm.exec) (hlk : meth.locks = false) (hret : meth.sig.returnType = none) {pc : Nat} {Ls : Array Slot} (hd : decode c.code pc = .ok (.return_, 1)) (hC : cells ≤ C) (hS : slots ≤ S) (hQ : Q none T.heap locs) : ownFin p e below (ownFE s C S) Q (T.setTop (mkF m pc Ls [])) :=
  ownRet X hlk (v := none) (fun _ => rfl) (fun fs hr => X.returnOut hx hret hd hr) hC hS hQ
/-- the contract of a method at given arguments and a given heap -/
abbrev ownMet (l : Launch) (Z : State) (y : MethodName) (bytes : ByteArray) (maxL : Nat) (ret : Option FieldType) (ws : List Jvm.Cond) (rm : Room) (as' : Array Value) (h0 : Heap) (Q : Option Value → Heap → List Loc → Prop) : Prop :=
  MetFree l y (head1 (Jvm.Cond.code y bytes maxL ret :: ws) rm) (fun a U => a = as' ∧ Z.Warmed39 U.vm ∧ U.heap = h0) (fun _ _ _ _ _ => True) (fun _ U o U' => ∃ v L, o = .returned v ∧ Q v U'.heap L ∧ FrameEnd U o U' L rm.cells rm.slots)
theorem ownBody {y : MethodName} {bytes : ByteArray} {maxL : Nat} {ret : Option FieldType} {ws : List Jvm.Cond} {rm : Room} {as' : Array Value} {h0 : Heap} (hpl : plainFor y = true)
    (H : ∀ (p : Program) (e : Env) (s : State) (m : MethodId) (below : List Frame) (meth : Method) (c : Code) (T : State), p.tables.exec = Jvm.exec → c.code = bytes → c.maxLocals = maxL → meth.sig.returnType = ret → meth.locks = false → Z.Warmed39 s.vm → s.vm.findClass y.cls = some m.cls → meth.name = y.name →
      Stand p l e rm s m as' below meth c T [] 0 0 → T.heap = h0 → ownFin p e below (ownFE s rm.cells rm.slots) Q (T.setTop (entryFrame m as' maxL))) : ownMet l Z y bytes maxL ret ws rm as' h0 Q := by
  refine MetFree.of_bodySF hpl hisR ?_
  intro p e s m args below meth c s₁ Bd hml0 hP hK
  obtain ⟨rfl, hZ, hh⟩ := hP
  exact H p e s m below meth c s₁ Bd.exec Bd.bytes hml0 Bd.returns Bd.notSynchronized hZ (findClass_of_methodNamed Bd.named) (name_of_methodNamed Bd.named Bd.method).1 (Stand.of_body Bd) (by rw [← hh, Bd.state]; rfl)
theorem ownCallS {own : String} {index : Nat} {y : MethodName} {bytes : ByteArray} {maxL : Nat} {ret : Option FieldType} {rm : Room} {as' : Array Value} {Q' : Option Value → Heap → List Loc → Prop}
    (X : Stand p l e R s m args below meth c T locs cells slots) (hx : p.tables.exec = Jvm.exec) (hZ : Z.Warmed39 s.vm) (hown : s.vm.findClass own = some m.cls)
    (w1 : (Jvm.Cond.methodLink own index y).before a0 Z = true) (w2 : (Jvm.Cond.static y).before a0 Z = true) (w3 : (Jvm.Cond.initialized y.cls).before a0 Z = true) (w4 : (Jvm.Cond.code y bytes maxL ret).before a0 Z = true)
    (hy : y.cls ≠ "java/lang/invoke/MethodHandle" ∧ y.cls ≠ "java/lang/invoke/VarHandle") (eT : T.heap = h) (hM : ownMet l Z y bytes maxL ret [] rm as' h Q')
    {pc : Nat} {Ls : Array Slot} {st : List Value} (hsz : Ls.size = c.maxLocals) (argsL rest : List Value) (hlen : ∀ sig, parseMethodDescriptor y.desc = some sig → argsL.length = sig.parameters.length)
    (hst : st = argsL.reverse ++ rest) (has : argsL.toArray = as') (W : Nat) (hW : (rest.map fun v => v.category).sum = W) (hd : decode c.code pc = .ok (.invokestatic index, 3))
    (hfr : rm.frames + 1 ≤ R.frames) (hlo : W + (maxL + 11) + rm.locals ≤ R.locals) (hce : cells + rm.cells ≤ R.cells) (hsl : slots + rm.slots ≤ R.slots)
    (K : ∀ v T' L', Stand p l e R s m args below meth c T' (locs ++ L') (cells + rm.cells) (slots + rm.slots) → Q' v T'.heap L' → ownFin p e below F Q (T'.setTop (mkF m (pc + 3) Ls (v.toList ++ rest)))) :
    ownFin p e below F Q (T.setTop (mkF m pc Ls st)) := by
  obtain ⟨v, _, ⟨T2, L2, k2, n2⟩, -, X2, ⟨Lc2, hQ2, l2, y2, z2⟩, st2⟩ := Jvm.LawKit.callS X hx (y := y) hown (mvT hZ w1) (mvT hZ w2) (mvT hZ w3) (mvT hZ w4) hy (backOf (W := W) hM hZ w4 w3 hfr hlo) (g := mkF m pc Ls st) rfl hsz (argsL := argsL) (rest := rest) hlen hst (by show 2 * 0 + _ ≤ _; omega) hd (fun _ _ => ⟨has, eT, hce, hsl⟩)
  dsimp only [Pt.U, Pt.locs, Pt.cells, Pt.slots] at X2 l2 y2 z2 st2 hQ2
  subst l2 y2 z2
  exact ownVia st2 (K v T2 Lc2 X2 hQ2)
theorem ownCallN {own : String} {index : Nat} {y : MethodName} {bytes : ByteArray} {maxL : Nat} {rm : Room} {as' : Array Value} {Q' : Option Value → Heap → List Loc → Prop}
    (X : Stand p l e R s m args below meth c T locs cells slots) (hx : p.tables.exec = Jvm.exec) (hZ : Z.Warmed39 s.vm) (hown : s.vm.findClass own = some m.cls) (hy1 : y.name = "<init>")
    (w1 : (Jvm.Cond.methodLink own index y).before a0 Z = true) (w2 : (Jvm.Cond.instanceMethod y).before a0 Z = true) (w3 : (Jvm.Cond.initialized y.cls).before a0 Z = true) (w4 : (Jvm.Cond.code y bytes maxL none).before a0 Z = true)
    (hy : y.cls ≠ "java/lang/invoke/MethodHandle" ∧ y.cls ≠ "java/lang/invoke/VarHandle") (eT : T.heap = h) (hM : ownMet l Z y bytes maxL none [] rm as' h Q')
    {pc : Nat} {Ls : Array Slot} {st : List Value} (hsz : Ls.size = c.maxLocals) (a : Addr) (argsL rest : List Value) (hlen : ∀ sig, parseMethodDescriptor y.desc = some sig → argsL.length = sig.parameters.length)
    (hst : st = argsL.reverse ++ .ref a :: rest) (has : (Value.ref a :: argsL).toArray = as') (W : Nat) (hW : (rest.map fun v => v.category).sum = W) (hd : decode c.code pc = .ok (.invokespecial index, 3))
    (hfr : rm.frames + 1 ≤ R.frames) (hlo : W + (maxL + 11) + rm.locals ≤ R.locals) (hce : cells + rm.cells ≤ R.cells) (hsl : slots + rm.slots ≤ R.slots)
    (K : ∀ v T' L', Stand p l e R s m args below meth c T' (locs ++ L') (cells + rm.cells) (slots + rm.slots) → Q' v T'.heap L' → ownFin p e below F Q (T'.setTop (mkF m (pc + 3) Ls (v.toList ++ rest)))) :
    ownFin p e below F Q (T.setTop (mkF m pc Ls st)) := by
  obtain ⟨v, _, ⟨T2, L2, k2, n2⟩, -, X2, ⟨Lc2, hQ2, l2, y2, z2⟩, st2⟩ := X.specialBack hx (y := y) hy1 hown (mvT hZ w1) (mvT hZ w2) (mvT hZ w4) hy (backOf (W := W) hM hZ w4 w3 hfr hlo) (g := mkF m pc Ls st) rfl hsz (Steps.refl _) (a := a) (argsL := argsL) (rest := rest) hlen hst (by show 2 * 0 + _ ≤ _; omega) hd (fun _ _ => ⟨has, eT, hce, hsl⟩)
  dsimp only [Pt.U, Pt.locs, Pt.cells, Pt.slots] at X2 l2 y2 z2 st2 hQ2
  subst l2 y2 z2
  exact ownVia (fun _ k => st2.trans k) (K v T2 Lc2 X2 hQ2)
theorem ownCallV {own C' : String} {index : Nat} {y z : MethodName} {bytes : ByteArray} {maxL : Nat} {ret : Option FieldType} {rm : Room} {as' : Array Value} {Q' : Option Value → Heap → List Loc → Prop}
    (X : Stand p l e R s m args below meth c T locs cells slots) (hx : p.tables.exec = Jvm.exec) (hZ : Z.Warmed39 s.vm) (hown : s.vm.findClass own = some m.cls)
    (w1 : (Jvm.Cond.methodLink own index y).before a0 Z = true) (w2 : (Jvm.Cond.declares y).before a0 Z = true) (w5 : (Jvm.Cond.selects y.cls y y).before a0 Z = true) (w6 : (Jvm.Cond.selects C' y z).before a0 Z = true) (w7 : (Jvm.Cond.instanceMethod z).before a0 Z = true) (w3 : (Jvm.Cond.initialized z.cls).before a0 Z = true) (w4 : (Jvm.Cond.code z bytes maxL ret).before a0 Z = true)
    (hy : y.cls ≠ "java/lang/invoke/MethodHandle" ∧ y.cls ≠ "java/lang/invoke/VarHandle") (eT : T.heap = h) {a : Addr} (E : Exa Z h a C') (hM : ownMet l Z z bytes maxL ret [] rm as' h Q')
    {pc : Nat} {Ls : Array Slot} {st : List Value} (hsz : Ls.size = c.maxLocals) (argsL rest : List Value) (hlen : ∀ sig, parseMethodDescriptor y.desc = some sig → argsL.length = sig.parameters.length)
    (hst : st = argsL.reverse ++ .ref a :: rest) (has : (Value.ref a :: argsL).toArray = as') (W : Nat) (hW : (rest.map fun v => v.category).sum = W) (hd : decode c.code pc = .ok (.invokevirtual index, 3))
    (hfr : rm.frames + 1 ≤ R.frames) (hlo : W + (maxL + 11) + rm.locals ≤ R.locals) (hce : cells + rm.cells ≤ R.cells) (hsl : slots + rm.slots ≤ R.slots)
    (K : ∀ v T' L', Stand p l e R s m args below meth c T' (locs ++ L') (cells + rm.cells) (slots + rm.slots) → Q' v T'.heap L' → ownFin p e below F Q (T'.setTop (mkF m (pc + 3) Ls (v.toList ++ rest)))) :
    ownFin p e below F Q (T.setTop (mkF m pc Ls st)) := by
  obtain ⟨cq, kq, qa, qb, qc⟩ := isOf hZ eT E
  obtain ⟨v, _, ⟨T2, L2, k2, n2⟩, -, X2, ⟨Lc2, hQ2, l2, y2, z2⟩, st2⟩ := X.virtualBack hx (y := y) (z := z) hown (mvT hZ w1) (mvT hZ w2) (notFace_of_selects (args := #[]) (mvT hZ w5)) (mvT hZ w6) (mvT hZ w7) hy (backOf (W := W) hM hZ w4 w3 hfr hlo) qa qc (g := mkF m pc Ls st) rfl hsz (Steps.refl _) (argsL := argsL) (rest := rest) hlen hst (by show 2 * 0 + _ ≤ _; omega) hd (fun _ _ => ⟨has, eT, hce, hsl⟩)
  dsimp only [Pt.U, Pt.locs, Pt.cells, Pt.slots] at X2 l2 y2 z2 st2 hQ2
  subst l2 y2 z2
  exact ownVia (fun _ k => st2.trans k) (K v T2 Lc2 X2 hQ2)
theorem ownLen {a : Addr} {k : ClassId} {ty : FieldType} {z : Int32} {vs : List Value} {dv : Value} (X : Stand p l e R s m args below meth c T locs cells slots) (hx : p.tables.exec = Jvm.exec) (hZ : Z.Warmed39 s.vm) (eT : T.heap = h) (A : Arv Z h a k ty z vs dv) {pc : Nat} {Ls : Array Slot} {rest : List Value} (hd : decode c.code pc = .ok (.arraylength, 1))
    (K : ownFin p e below F Q (T.setTop (mkF m (pc + 1) Ls (.int z :: rest)))) : ownFin p e below F Q (T.setTop (mkF m pc Ls (.ref a :: rest))) := by
  obtain ⟨cl, Ar, -, Sz, Nz, -, -⟩ := A
  rw [← len_of Sz Nz] at K
  exact ownVia (fun t k => X.arraylength hx (by rw [eT]; exact Ar.1) (State.isArrayOf_alike hZ.alike Ar.2.1) (g := mkF m pc Ls (.ref a :: rest)) rfl rfl hd t k) K
theorem ownBaload {a : Addr} {k : ClassId} {z j : Int32} {vs : List Value} {dv v : Value} (X : Stand p l e R s m args below meth c T locs cells slots) (hx : p.tables.exec = Jvm.exec) (hZ : Z.Warmed39 s.vm) (eT : T.heap = h) (A : Arv Z h a k .byte z vs dv) (hj : ¬ j < 0 ∧ j < z) (hv : vs.getD j.toNatClampNeg dv = v) {pc : Nat} {Ls : Array Slot} {rest : List Value} (hd : decode c.code pc = .ok (.baload, 1))
    (K : ownFin p e below F Q (T.setTop (mkF m (pc + 1) Ls (v :: rest)))) : ownFin p e below F Q (T.setTop (mkF m pc Ls (.int j :: .ref a :: rest))) := by
  obtain ⟨cl, Ar, -, Sz, Nz, H, -⟩ := A
  have hin := inb_of Sz hj
  exact ownVia (fun t k => X.baloadBytes hx (by rw [eT]; exact Ar.1) (State.isArrayOf_alike hZ.alike Ar.2.1) Ar.2.2 hin (H.at hin hv) (g := mkF m pc Ls (.int j :: .ref a :: rest)) rfl rfl hd t k) K
theorem ownIaload {a : Addr} {k : ClassId} {z j : Int32} {vs : List Value} {dv v : Value} (X : Stand p l e R s m args below meth c T locs cells slots) (hx : p.tables.exec = Jvm.exec) (hZ : Z.Warmed39 s.vm) (eT : T.heap = h) (A : Arv Z h a k .int z vs dv) (hj : ¬ j < 0 ∧ j < z) (hv : vs.getD j.toNatClampNeg dv = v) {pc : Nat} {Ls : Array Slot} {rest : List Value} (hd : decode c.code pc = .ok (.iaload, 1))
    (K : ownFin p e below F Q (T.setTop (mkF m (pc + 1) Ls (v :: rest)))) : ownFin p e below F Q (T.setTop (mkF m pc Ls (.int j :: .ref a :: rest))) := by
  obtain ⟨cl, Ar, -, Sz, Nz, H, -⟩ := A
  have hin := inb_of Sz hj
  exact ownVia (fun t k => X.iaload hx (by rw [eT]; exact Ar.1) (State.isArrayOf_alike hZ.alike Ar.2.1) Ar.2.2 hin (H.at hin hv) (g := mkF m pc Ls (.int j :: .ref a :: rest)) rfl rfl hd t k) K
theorem ownLaload {a : Addr} {k : ClassId} {z j : Int32} {vs : List Value} {dv v : Value} (X : Stand p l e R s m args below meth c T locs cells slots) (hx : p.tables.exec = Jvm.exec) (hZ : Z.Warmed39 s.vm) (eT : T.heap = h) (A : Arv Z h a k .long z vs dv) (hj : ¬ j < 0 ∧ j < z) (hv : vs.getD j.toNatClampNeg dv = v) {pc : Nat} {Ls : Array Slot} {rest : List Value} (hd : decode c.code pc = .ok (.laload, 1))
    (K : ownFin p e below F Q (T.setTop (mkF m (pc + 1) Ls (v :: rest)))) : ownFin p e below F Q (T.setTop (mkF m pc Ls (.int j :: .ref a :: rest))) := by
  obtain ⟨cl, Ar, -, Sz, Nz, H, -⟩ := A
  have hin := inb_of Sz hj
  exact ownVia (fun t k => X.laload hx (by rw [eT]; exact Ar.1) (State.isArrayOf_alike hZ.alike Ar.2.1) Ar.2.2 hin (H.at hin hv) (g := mkF m pc Ls (.int j :: .ref a :: rest)) rfl rfl hd t k) K
theorem ownBastore {a : Addr} {k : ClassId} {z j x : Int32} {vs : List Value} {dv : Value} {n0 : Nat} (X : Stand p l e R s m args below meth c T locs cells slots) (hx : p.tables.exec = Jvm.exec) (hZ : Z.Warmed39 s.vm) (eT : T.heap = h) (A : Arv Z h a k .byte z vs dv) (hj : ¬ j < 0 ∧ j < z) (i : Nat) (hi : j.toNatClampNeg = i) (hl : i < vs.length) (N : Fr n0 locs) (ge : n0 ≤ a) {pc : Nat} {Ls : Array Slot} {rest : List Value} (hd : decode c.code pc = .ok (.bastore, 1))
    (K : ∀ T' h' L', Stand p l e R s m args below meth c T' L' cells slots → T'.heap = h' → Fr n0 L' → Wr h h' a i (.int (nar .byte x)) → Arv Z h' a k .byte z (vs.set i (.int (nar .byte x))) dv → ownFin p e below F Q (T'.setTop (mkF m (pc + 1) Ls rest))) :
    ownFin p e below F Q (T.setTop (mkF m pc Ls (.int x :: .int j :: .ref a :: rest))) := by
  obtain ⟨cl, Ar, q1, Sz, Nz, H, G⟩ := A
  obtain ⟨T', h', X', e', W, st⟩ := stB X hx hZ eT Ar (j := j) (x := x) (inb_of Sz hj) (g := mkF m pc Ls (.int x :: .int j :: .ref a :: rest)) rfl rfl hd
  have N' := Fr.snoc X' N ge
  have A' := Arv.set Ar q1 Sz Nz H G (fits_nar_byte x) W i hi hl
  rw [hi] at W
  exact ownVia st (K T' h' _ X' e' N' W A')
theorem ownIastore {a : Addr} {k : ClassId} {z j x : Int32} {vs : List Value} {dv : Value} {n0 : Nat} (X : Stand p l e R s m args below meth c T locs cells slots) (hx : p.tables.exec = Jvm.exec) (hZ : Z.Warmed39 s.vm) (eT : T.heap = h) (A : Arv Z h a k .int z vs dv) (hj : ¬ j < 0 ∧ j < z) (i : Nat) (hi : j.toNatClampNeg = i) (hl : i < vs.length) (N : Fr n0 locs) (ge : n0 ≤ a) {pc : Nat} {Ls : Array Slot} {rest : List Value} (hd : decode c.code pc = .ok (.iastore, 1))
    (K : ∀ T' h' L', Stand p l e R s m args below meth c T' L' cells slots → T'.heap = h' → Fr n0 L' → Wr h h' a i (.int x) → Arv Z h' a k .int z (vs.set i (.int x)) dv → ownFin p e below F Q (T'.setTop (mkF m (pc + 1) Ls rest))) :
    ownFin p e below F Q (T.setTop (mkF m pc Ls (.int x :: .int j :: .ref a :: rest))) := by
  obtain ⟨cl, Ar, q1, Sz, Nz, H, G⟩ := A
  obtain ⟨T', h', X', e', W, st⟩ := stI X hx hZ eT Ar (j := j) (x := x) (inb_of Sz hj) (g := mkF m pc Ls (.int x :: .int j :: .ref a :: rest)) rfl rfl hd
  have N' := Fr.snoc X' N ge
  have A' := Arv.set Ar q1 Sz Nz H G rfl W i hi hl
  rw [hi] at W
  exact ownVia st (K T' h' _ X' e' N' W A')
theorem ownLastore {a : Addr} {k : ClassId} {z j : Int32} {x : Int64} {vs : List Value} {dv : Value} {n0 : Nat} (X : Stand p l e R s m args below meth c T locs cells slots) (hx : p.tables.exec = Jvm.exec) (hZ : Z.Warmed39 s.vm) (eT : T.heap = h) (A : Arv Z h a k .long z vs dv) (hj : ¬ j < 0 ∧ j < z) (i : Nat) (hi : j.toNatClampNeg = i) (hl : i < vs.length) (N : Fr n0 locs) (ge : n0 ≤ a) {pc : Nat} {Ls : Array Slot} {rest : List Value} (hd : decode c.code pc = .ok (.lastore, 1))
    (K : ∀ T' h' L', Stand p l e R s m args below meth c T' L' cells slots → T'.heap = h' → Fr n0 L' → Wr h h' a i (.long x) → Arv Z h' a k .long z (vs.set i (.long x)) dv → ownFin p e below F Q (T'.setTop (mkF m (pc + 1) Ls rest))) :
    ownFin p e below F Q (T.setTop (mkF m pc Ls (.long x :: .int j :: .ref a :: rest))) := by
  obtain ⟨cl, Ar, q1, Sz, Nz, H, G⟩ := A
  obtain ⟨T', h', X', e', W, st⟩ := stJ X hx hZ eT Ar (j := j) (x := x) (inb_of Sz hj) (g := mkF m pc Ls (.long x :: .int j :: .ref a :: rest)) rfl rfl hd
  have N' := Fr.snoc X' N ge
  have A' := Arv.set Ar q1 Sz Nz H G rfl W i hi hl
  rw [hi] at W
  exact ownVia st (K T' h' _ X' e' N' W A')
theorem ownNewP {aty : ArrayType} {n : Int32} (X : Stand p l e R s m args below meth c T locs cells slots) (hx : p.tables.exec = Jvm.exec) (hZ : Z.Warmed39 s.vm) (w : (Jvm.Cond.arrayClass (newarray.typeOf aty)).before a0 Z = true) (eT : T.heap = h) (ad : String) (had : "[" ++ (newarray.typeOf aty).toString = ad) (hn : ¬ n < 0) (N : Nat) (hN : n.toNatClampNeg = N) (cap : Nat) (hcap : N ≤ cap) (hb : cap * 8 ≤ 536870912) (hc : cells + 1 ≤ R.cells) (hl : slots + cap ≤ R.slots)
    {pc : Nat} {Ls : Array Slot} {rest : List Value} (hd : decode c.code pc = .ok (.newarray aty, 2))
    (K : ∀ T' h' k a, a = h.size → Stand p l e R s m args below meth c T' locs (cells + 1) (slots + cap) → T'.heap = h' → Ext h h' → Arv Z h' a k (newarray.typeOf aty) n (List.replicate N (defaultValue (newarray.typeOf aty))) (defaultValue (newarray.typeOf aty)) → Exa Z h' a ad → ownFin p e below F Q (T'.setTop (mkF m (pc + 2) Ls (.ref a :: rest)))) :
    ownFin p e below F Q (T.setTop (mkF m pc Ls (.int n :: rest))) := by
  obtain ⟨T', h', k, X', e', E, A, Ex, st⟩ := newPE X hx hZ w eT (g := mkF m pc Ls (.int n :: rest)) rfl hd rfl hn (cap := cap) (by rw [hN]; exact hcap) hb hc hl had
  exact ownVia st (K T' h' k _ rfl X' e' E ((Arv.new A hn).pad (pad_rep [] _ _)) Ex)
theorem ownClone {own : String} {index : Nat} {a : Addr} {k : ClassId} {ty : FieldType} {z : Int32} {vs : List Value} {dv : Value} {ad : String} (X : Stand p l e R s m args below meth c T locs cells slots) (hx : p.tables.exec = Jvm.exec) (hZ : Z.Warmed39 s.vm) (hown : s.vm.findClass own = some m.cls)
    (w1 : (Jvm.Cond.methodLink own index ⟨ad, "clone", "()Ljava/lang/Object;"⟩).before a0 Z = true) (w2 : (Jvm.Cond.sameMethod ad "java/lang/Object" "clone" "()Ljava/lang/Object;").before a0 Z = true) (w3 : (Jvm.Cond.native ⟨"java/lang/Object", "clone", "()Ljava/lang/Object;"⟩).before a0 Z = true)
    (w4 : (Jvm.Cond.instanceMethod ⟨"java/lang/Object", "clone", "()Ljava/lang/Object;"⟩).before a0 Z = true) (w5 : (Jvm.Cond.selects ad ⟨ad, "clone", "()Ljava/lang/Object;"⟩ ⟨"java/lang/Object", "clone", "()Ljava/lang/Object;"⟩).before a0 Z = true) (w6 : (Jvm.Cond.castable ad "java/lang/Cloneable").before a0 Z = true)
    (eT : T.heap = h) (A : Arv Z h a k ty z vs dv) (E : Exa Z h a ad) {pc : Nat} {Ls : Array Slot} {rest : List Value} (hsz : Ls.size = c.maxLocals) (hd : decode c.code pc = .ok (.invokevirtual index, 3)) (hf : 1 ≤ R.frames) (W : Nat) (hW : (rest.map fun v => v.category).sum = W) (hlo : W + 14 ≤ R.locals) (cap : Nat) (hcap : z.toNatClampNeg ≤ cap) (hc : cells + 1 ≤ R.cells) (hsl : slots + cap ≤ R.slots)
    (K : ∀ T' h' b, b = h.size → Stand p l e R s m args below meth c T' locs (cells + 1) (slots + cap) → T'.heap = h' → Ext h h' → Arv Z h' b k ty z vs dv → Exa Z h' b ad → ownFin p e below F Q (T'.setTop (mkF m (pc + 3) Ls (.ref b :: rest)))) :
    ownFin p e below F Q (T.setTop (mkF m pc Ls (.ref a :: rest))) := by
  obtain ⟨T', h', X', e', Ex, A', E', st⟩ := cloneH X hx hZ hown w1 w2 w3 w4 w5 w6 eT A.arh E (g := mkF m pc Ls (.ref a :: rest)) rfl hsz rfl hd hf (W := W) (by show 2 * 0 + _ ≤ _; omega) hlo hcap hc hsl
  exact ownVia st (K T' h' _ rfl X' e' Ex A' E')
theorem ownCallP {own : String} {index : Nat} {y y2 : MethodName} {bytes : ByteArray} {maxL : Nat} {ret : Option FieldType} {rm : Room} {as' : Array Value} {Q' : Option Value → Heap → List Loc → Prop} {C' : String}
    (X : Stand p l e R s m args below meth c T locs cells slots) (hx : p.tables.exec = Jvm.exec) (hZ : Z.Warmed39 s.vm) (hown : s.vm.findClass own = some m.cls)
    (w1 : (Jvm.Cond.methodLink own index y).before a0 Z = true) (w2 : (Jvm.Cond.privateMethod y).before a0 Z = true) (w5 : (Jvm.Cond.selects y2.cls y2 y2).before a0 Z = true) (hc2 : y2.cls = y.cls) (w7 : (Jvm.Cond.instanceMethod y).before a0 Z = true) (w3 : (Jvm.Cond.initialized y.cls).before a0 Z = true) (w4 : (Jvm.Cond.code y bytes maxL ret).before a0 Z = true)
    (hy : y.cls ≠ "java/lang/invoke/MethodHandle" ∧ y.cls ≠ "java/lang/invoke/VarHandle") (eT : T.heap = h) {a : Addr} (E : Exa Z h a C') (hM : ownMet l Z y bytes maxL ret [] rm as' h Q')
    {pc : Nat} {Ls : Array Slot} {st : List Value} (hsz : Ls.size = c.maxLocals) (argsL rest : List Value) (hlen : ∀ sig, parseMethodDescriptor y.desc = some sig → argsL.length = sig.parameters.length)
    (hst : st = argsL.reverse ++ .ref a :: rest) (has : (Value.ref a :: argsL).toArray = as') (W : Nat) (hW : (rest.map fun v => v.category).sum = W) (hd : decode c.code pc = .ok (.invokevirtual index, 3))
    (hfr : rm.frames + 1 ≤ R.frames) (hlo : W + (maxL + 11) + rm.locals ≤ R.locals) (hce : cells + rm.cells ≤ R.cells) (hsl : slots + rm.slots ≤ R.slots)
    (K : ∀ v T' L', Stand p l e R s m args below meth c T' (locs ++ L') (cells + rm.cells) (slots + rm.slots) → Q' v T'.heap L' → ownFin p e below F Q (T'.setTop (mkF m (pc + 3) Ls (v.toList ++ rest)))) :
    ownFin p e below F Q (T.setTop (mkF m pc Ls st)) := by
  have hpriv : s.PrivateAt y := Cond.privateMethod_at (mvP hZ w2 (args := #[]))
  have hsel2 : (Jvm.Cond.selects y2.cls y2 y2).before args s = true := mvT hZ w5
  obtain ⟨c2, r2, m2, q1, q2, q3, q4, kP, hkP, hkPi⟩ := Cond.selects_spec hsel2
  have hf2 := findClass_of_methodNamed q3
  rw [hc2] at hf2
  have hsel : (Jvm.Cond.selects y.cls y y).before args s = true := selects_self_of_private hf2 hkP hkPi hpriv (mvT hZ w7) hy
  obtain ⟨cq, qc1, qc2⟩ := E.cell
  obtain ⟨v, _, ⟨T2, L2, k2, n2⟩, -, X2, ⟨Lc2, hQ2, l2, y2', z2⟩, st2⟩ := X.privateBack hx (y := y) hown (mvT hZ w1) (mvT hZ w7) hsel hpriv (mvT hZ w4) hy (backOf (W := W) hM hZ w4 w3 hfr hlo) (g := mkF m pc Ls st) rfl hsz (Steps.refl _) (a := a) (by rw [eT]; exact qc1) qc2 (argsL := argsL) (rest := rest) hlen hst (by show 2 * 0 + _ ≤ _; omega) hd (fun _ _ => ⟨has, eT, hce, hsl⟩)
  dsimp only [Pt.U, Pt.locs, Pt.cells, Pt.slots] at X2 l2 y2' z2 st2 hQ2
  subst l2 y2' z2
  exact ownVia (fun _ k => st2.trans k) (K v T2 Lc2 X2 hQ2)
theorem ownCast {own K' : String} {index : Nat} {a : Addr} (X : Stand p l e R s m args below meth c T locs cells slots) (hx : p.tables.exec = Jvm.exec) (hZ : Z.Warmed39 s.vm) (hown : s.vm.findClass own = some m.cls) (w : (Jvm.Cond.classLink own index K').before a0 Z = true) (eT : T.heap = h) (FI : Ins Z h a K' true) {pc : Nat} {Ls : Array Slot} {rest : List Value} (hd : decode c.code pc = .ok (.checkcast index, 3))
    (K : ∀ T', Stand p l e R s m args below meth c T' locs cells slots → T'.heap = h → ownFin p e below F Q (T'.setTop (mkF m (pc + 3) Ls (.ref a :: rest)))) : ownFin p e below F Q (T.setTop (mkF m pc Ls (.ref a :: rest))) := by
  obtain ⟨T', X', e', st⟩ := castY X hx hZ hown w eT FI (g := mkF m pc Ls (.ref a :: rest)) rfl rfl hd
  exact ownVia st (K T' X' e')
theorem own_clamp {j : Int32} {n : Nat} (h : j.toInt = (n : Int)) : j.toNatClampNeg = n := by
  show j.toInt.toNat = n
  rw [h]; rfl
theorem own_nneg {j : Int32} {n : Nat} (h : j.toInt = (n : Int)) : ¬ j < 0 := fun q => by
  have := Int32.lt_iff_toInt_lt.mp q
  have k0 : (0 : Int32).toInt = 0 := by decide
  omega
theorem ownCopy {own : String} {index : Nat} {a b : Addr} {k k' : ClassId} {ty : FieldType} {z z' sp dp nn : Int32} {vs vd : List Value} {dv dd : Value} {n0 : Nat} (X : Stand p l e R s m args below meth c T locs cells slots) (hx : p.tables.exec = Jvm.exec) (hZ : Z.Warmed39 s.vm) (hown : s.vm.findClass own = some m.cls)
    (w1 : (Jvm.Cond.methodLink own index Jvm.Stand.acN).before a0 Z = true) (w2 : (Jvm.Cond.native Jvm.Stand.acN).before a0 Z = true) (w3 : (Jvm.Cond.static Jvm.Stand.acN).before a0 Z = true) (w4 : (Jvm.Cond.initialized "java/lang/System").before a0 Z = true) (eT : T.heap = h)
    (A : Arv Z h a k ty z vs dv) (B : Arv Z h b k' ty z' vd dd) (hty : refKind ty = false) (i j n lz lz' : Nat) (hi : sp.toInt = (i : Int)) (hj : dp.toInt = (j : Int)) (hn : nn.toInt = (n : Int)) (hz : z.toInt = (lz : Int)) (hz' : z'.toInt = (lz' : Int)) (h4 : i + n ≤ lz) (h5 : j + n ≤ lz') (hl : j + n ≤ vd.length) (N : Fr n0 locs) (ge : n0 ≤ b)
    {pc : Nat} {Ls : Array Slot} {rest : List Value} (hsz : Ls.size = c.maxLocals) (hd : decode c.code pc = .ok (.invokestatic index, 3)) (hf : 1 ≤ R.frames) (W : Nat) (hW : (rest.map fun v => v.category).sum = W) (hlo : W + (nativeFrameWords "java/lang/System" "arraycopy" 5 + 11) ≤ R.locals)
    (K : ∀ T' h' L', Stand p l e R s m args below meth c T' L' cells slots → T'.heap = h' → Fr n0 L' → Keep h h' [b] → Arv Z h' b k' ty z' (vd.take j ++ ((List.range n).map fun x => vs.getD (i + x) dv) ++ vd.drop (j + n)) dd → ownFin p e below F Q (T'.setTop (mkF m (pc + 3) Ls rest))) :
    ownFin p e below F Q (T.setTop (mkF m pc Ls (.int nn :: .int dp :: .ref b :: .int sp :: .ref a :: rest))) := by
  have e1 := own_clamp hi
  have e2 := own_clamp hj
  have e3 := own_clamp hn
  have e4 := own_clamp hz
  have e5 := own_clamp hz'
  obtain ⟨T', h', L', X', e', N', K', B', st⟩ := cpA X hx hZ hown w1 w2 w3 w4 eT A B (Or.inl ⟨rfl, hty⟩) (own_nneg hi) (own_nneg hj) (own_nneg hn) (by omega) (by omega) rfl (by omega) N ge (g := mkF m pc Ls (.int nn :: .int dp :: .ref b :: .int sp :: .ref a :: rest)) rfl hsz rfl hd hf (W := W) (by show 2 * 0 + _ ≤ _; omega) hlo
  rw [e1, e2, e3] at B'
  exact ownVia st (K T' h' L' X' e' N' K' B')
theorem own_lti {a b : Int32} {x y : Int} (ha : a.toInt = x) (hb : b.toInt = y) : a < b ↔ x < y := by rw [Int32.lt_iff_toInt_lt, ha, hb]
theorem own_sub {a b : Int32} {i j : Nat} (ha : a.toInt = (i : Int)) (hb : b.toInt = (j : Int)) (h : j ≤ i) : (a - b).toInt = ((i - j : Nat) : Int) := by
  have h1 := c_isub a b
  have h2 := rng32 (a - b)
  have h3 := rng32 a
  have h4 := rng32 b
  omega
theorem own_add {a b : Int32} {i j : Nat} (ha : a.toInt = (i : Int)) (hb : b.toInt = (j : Int)) (h : i + j < 2147483648) : (a + b).toInt = ((i + j : Nat) : Int) := by
  have h1 := c_iadd a b
  have h2 := rng32 (a + b)
  omega
theorem own_nlt {a b : Int32} {i j : Int} (ha : a.toInt = i) (hb : b.toInt = j) (h : j ≤ i) : ¬ a < b := fun q => by
  have := (own_lti ha hb).mp q
  omega
theorem own_enum {args : Array Value} {C n d K : String} (hx : (Jvm.Cond.exactly (.static C n d) K).value args s none s [] = some true) (wi : (Jvm.Cond.initialized C).before args s = true) (wl : (Jvm.Cond.laysStatic C n d).before args s = true) :
    ∃ a, (Term.static C n d).eval args s none [] s = some (.ref a) ∧ Sta s s.heap C n d (.ref a) ∧ Exa s s.heap a K := by
  obtain ⟨a, ev⟩ := exa_v hx
  exact ⟨a, ev, Sta.start ev (Or.inr ⟨wi, wl⟩), Exa.start ev hx⟩
theorem own_eqv {args : Array Value} {t : Term} {k : Int32} (hf : (Jvm.Cond.eq t (.int k)).value args s none s [] = some true) : t.eval args s none [] s = some (.int k) := by
  cases hv : t.eval args s none [] s with
  | none => simp [Cond.value, hv] at hf
  | some v =>
    cases v <;> simp [Cond.value, hv, Term.eval] at hf
    rw [hf]
theorem own_efld {args : Array Value} {t : Term} {a : Addr} {C n d : String} {k : Int32} (ev : t.eval args s none [] s = some (.ref a)) (hf : (Jvm.Cond.eq (.field t C n d) (.int k)).value args s none s [] = some true) : Fld s s.heap a C n d (.int k) :=
  Fld.start ((fld_at ev).symm.trans (own_eqv hf))
theorem own_iff_f {A B P : Prop} (hA : ¬ A) (h : P ↔ A ∨ B) : P ↔ B := by simpa [hA] using h
theorem own_iff_t {A B P : Prop} (hA : A) (h : P ↔ A ∨ B) : P := h.mpr (Or.inl hA)
theorem own_ref_ne {a b : Addr} (h : a ≠ b) : ¬ (Value.ref a) = .ref b := fun q => h (by cases q; rfl)
theorem own_sz {n0 : Nat} {h' : Heap} (q : n0 ≤ h.size) (E : Ext h h') : n0 ≤ h'.size := Nat.le_trans q E.1
theorem own_szW {n0 : Nat} {h' : Heap} {a : Addr} {sl : Nat} {v : Value} (q : n0 ≤ h.size) (W : Wr h h' a sl v) : n0 ≤ h'.size := by rw [W.size]; exact q
theorem own_eqi {a b : Int32} {x y : Int} (ha : a.toInt = x) (hb : b.toInt = y) : a = b ↔ x = y := by rw [← Int32.toInt_inj, ha, hb]
theorem own_ltl {a b : Int64} {x y : Int} (ha : a.toInt = x) (hb : b.toInt = y) : a < b ↔ x < y := by rw [Int64.lt_iff_toInt_lt, ha, hb]
theorem own_eql {a b : Int64} {x y : Int} (ha : a.toInt = x) (hb : b.toInt = y) : a = b ↔ x = y := by rw [← Int64.toInt_inj, ha, hb]
theorem own_getD_map {α β : Type} (f : α → β) (d : α) (xs : List α) (n : Nat) : (xs.map f).getD n (f d) = f (xs.getD n d) := by
  simp only [List.getD_eq_getElem?_getD, List.getElem?_map]
  cases xs[n]? <;> rfl
theorem own_idx {j z : Int32} {zi : Int} (hz : z.toInt = zi) (h1 : 0 ≤ j.toInt) (h2 : j.toInt < zi) : ¬ j < 0 ∧ j < z := ⟨fun q => by have := (own_lti rfl (by decide : (0 : Int32).toInt = 0)).mp q; omega, Int32.lt_iff_toInt_lt.mpr (by rw [hz]; exact h2)⟩
end Own
def own_la (q : Int64) : Int32 := if q < (-2147483647 : Int64) ∨ (2147483647 : Int64) < q then 0 else 1
theorem own_c1 : (-2147483647 : Int64).toInt = -2147483647 := by decide
theorem own_c2 : (2147483647 : Int64).toInt = 2147483647 := by decide
theorem own_c3 : (-2147483648 : Int32).toInt = -2147483648 := by decide
theorem own_la0 {q : Int64} (h : q.toInt < -2147483647 ∨ 2147483647 < q.toInt) : own_la q = 0 := by
  simp only [own_la, Int64.lt_iff_toInt_lt, own_c1, own_c2]
  exact if_pos h
theorem own_la1 {q : Int64} (h : ¬ (q.toInt < -2147483647 ∨ 2147483647 < q.toInt)) : own_la q = 1 := by
  simp only [own_la, Int64.lt_iff_toInt_lt, own_c1, own_c2]
  exact if_neg h
theorem own_la_lo {q : Int64} (h : q < (-2147483647 : Int64)) : own_la q = 0 := if_pos (Or.inl h)
theorem own_la_hi {q : Int64} (h : (2147483647 : Int64) < q) : own_la q = 0 := if_pos (Or.inr h)
theorem own_la_in {q : Int64} (h1 : ¬ q < (-2147483647 : Int64)) (h2 : ¬ (2147483647 : Int64) < q) : own_la q = 1 := if_neg (fun z => z.elim h1 h2)
theorem own_ref1 {q : Int64} (h1 : q.toInt32.toInt64 = q) (h2 : q.toInt32 = (-2147483648 : Int32)) : own_la q = 0 := by
  apply own_la0
  have a := congrArg Int64.toInt h1
  rw [c_i2l, h2, own_c3] at a
  omega
theorem own_ref2 {q : Int64} (h1 : q.toInt32.toInt64 = q) (h2 : ¬ q.toInt32 = (-2147483648 : Int32)) : own_la q = 1 := by
  apply own_la1
  have a := congrArg Int64.toInt h1
  rw [c_i2l] at a
  have b := rng32 q.toInt32
  have d : q.toInt32.toInt ≠ -2147483648 := fun z => h2 (Int32.toInt_inj.mp (by rw [z, own_c3]))
  omega
theorem own_ref3 {q : Int64} (h1 : ¬ q.toInt32.toInt64 = q) : own_la q = 0 := by
  apply own_la0
  have a : q.toInt32.toInt ≠ q.toInt := fun z => h1 (Int64.toInt_inj.mp (by rw [c_i2l, z]))
  have b := rng32 q.toInt32
  have d := c_l2i q
  omega
theorem own_neg (q : Int64) : own_la q = own_la (-q) := by
  have a := c_lneg q
  have b := rng64 q
  have d := rng64 (-q)
  by_cases h : q.toInt < -2147483647 ∨ 2147483647 < q.toInt
  · rw [own_la0 h, own_la0 (by omega)]
  · rw [own_la1 h, own_la1 (by omega)]
theorem d1_0 : decode prog_6_method_2_code 0 = .ok (.lload_n 0, 1) := by decide +kernel
theorem d1_1 : decode prog_6_method_2_code 1 = .ok (.ldc2_w 25, 3) := by decide +kernel
theorem d1_4 : decode prog_6_method_2_code 4 = .ok (.lcmp, 1) := by decide +kernel
theorem d1_5 : decode prog_6_method_2_code 5 = .ok (.ifCond .lt 15, 3) := by decide +kernel
theorem d1_8 : decode prog_6_method_2_code 8 = .ok (.lload_n 0, 1) := by decide +kernel
theorem d1_9 : decode prog_6_method_2_code 9 = .ok (.ldc2_w 27, 3) := by decide +kernel
theorem d1_12 : decode prog_6_method_2_code 12 = .ok (.lcmp, 1) := by decide +kernel
theorem d1_13 : decode prog_6_method_2_code 13 = .ok (.ifCond .gt 7, 3) := by decide +kernel
theorem d1_16 : decode prog_6_method_2_code 16 = .ok (.iconst 1, 1) := by decide +kernel
theorem d1_17 : decode prog_6_method_2_code 17 = .ok (.goto 4, 3) := by decide +kernel
theorem d1_20 : decode prog_6_method_2_code 20 = .ok (.iconst 0, 1) := by decide +kernel
theorem d1_21 : decode prog_6_method_2_code 21 = .ok (.ireturn, 1) := by decide +kernel
theorem own_pn0 : plainName "com/example/tillbridge/tillbridge/channel/Bill" = true := by first | (simp [plainName, overriddenIn]; done) | decide +kernel
theorem own_ef1 (m : MethodId) (q1 : Int64) : entryFrame m #[(.long q1)] 2 = mkF m 0 #[.val (.long q1), .second] [] := by first | (simp [entryFrame, mkF, argsToLocals, Value.category]; done) | rfl
def Q_own_isla (Z : State) (q1 : Int64) (h0 : Heap) (n0 : Nat)  : Option Value → Heap → List Loc → Prop := fun v h L => v = some (.int (own_la q1)) ∧ Fr n0 L ∧ h = h0
set_option maxRecDepth 65536 in
set_option maxHeartbeats 40000000 in
theorem own_isla (l : Launch) (Z : State) (a0 : Array Value) (hw : ∀ d ∈ tables_1, d.before a0 Z = true)  (q1 : Int64) (h0 : Heap) (n0 : Nat)  (Z0 : n0 ≤ h0.size)  :
    ownMet l Z (⟨"com/example/tillbridge/tillbridge/channel/Bill", "isLineAmount", "(J)Z"⟩ : MethodName) prog_6_method_2_code 2 (some .boolean) [] ({ frames := 0, cells := 0, slots := 0, locals := 0 } : Room) #[(.long q1)] h0 (Q_own_isla Z q1 h0 n0 ) := by
  refine ownBody (plainFor_of_name own_pn0) ?_
  intro p e s m below meth c T0 hx hby hml hret hlk hZ hown hnm X0 e0
  have N0 : Fr n0 [] := Fr.nil n0
  refine ownVia (fun _ k => castTop (own_ef1 m q1) k) ?_
  show ownFin _ _ _ _ _ (T0.setTop (mkF m 0 #[.val (.long q1), .second] []))
  refine ownVia (fun _ k => XS.lloadN X0.here hx rfl (hb hby d1_0) rfl k) ?_
  show ownFin _ _ _ _ _ (T0.setTop (mkF m 1 #[.val (.long q1), .second] [(.long q1)]))
  refine ownVia (fun _ k => X0.ldc2Long hx hown (mvT hZ (hw _ (List.mem_of_getElem? (i := 6) rfl))) (g := (mkF m 1 #[.val (.long q1), .second] [(.long q1)])) rfl (hb hby d1_1) _ k) ?_
  show ownFin _ _ _ _ _ (T0.setTop (mkF m 4 #[.val (.long q1), .second] [(.long (-2147483647 : Int64)), (.long q1)]))
  refine ownVia (fun _ k => XS.lcmp X0.here hx rfl (hb hby d1_4) rfl k) ?_
  show ownFin _ _ _ _ _ (T0.setTop (mkF m 5 #[.val (.long q1), .second] [(.int (lcmpW q1 (-2147483647 : Int64)))]))
  by_cases hc2 : q1 < (-2147483647 : Int64)
  case pos =>
    have hc2I : q1.toInt < -2147483647 := (own_ltl rfl (by decide)).mp hc2
    refine ownVia (fun _ k => XS.ifYes X0.here hx rfl (pc0 := 5) (pc' := 20) rfl (hb hby d1_5) rfl ((if0 _ _).trans (tlt ((lw_lt _ _).mpr hc2)).1) (by decide) (by decide) k) ?_
    show ownFin _ _ _ _ _ (T0.setTop (mkF m 20 #[.val (.long q1), .second] []))
    refine ownVia (fun _ k => XS.iconst X0.here hx rfl (hb hby d1_20) k) ?_
    show ownFin _ _ _ _ _ (T0.setTop (mkF m 21 #[.val (.long q1), .second] [(.int (0 : Int32))]))
    refine ownRetZ X0 hx hlk hret (hb hby d1_21) (by decide) (by decide) (Or.inl rfl) ?_
    show (Q_own_isla Z q1 h0 n0 ) (some (.int (0 : Int32))) T0.heap _
    rw [e0]
    exact ⟨by rw [own_la_lo hc2], N0, rfl⟩
  case neg =>
    have hc2I : ¬ q1.toInt < -2147483647 := fun q => hc2 ((own_ltl rfl (by decide)).mpr q)
    refine ownVia (fun _ k => XS.ifNo X0.here hx rfl (hb hby d1_5) rfl ((if0 _ _).trans (flt (fun q => hc2 ((lw_lt _ _).mp q))).1) k) ?_
    show ownFin _ _ _ _ _ (T0.setTop (mkF m 8 #[.val (.long q1), .second] []))
    refine ownVia (fun _ k => XS.lloadN X0.here hx rfl (hb hby d1_8) rfl k) ?_
    show ownFin _ _ _ _ _ (T0.setTop (mkF m 9 #[.val (.long q1), .second] [(.long q1)]))
    refine ownVia (fun _ k => X0.ldc2Long hx hown (mvT hZ (hw _ (List.mem_of_getElem? (i := 7) rfl))) (g := (mkF m 9 #[.val (.long q1), .second] [(.long q1)])) rfl (hb hby d1_9) _ k) ?_
    show ownFin _ _ _ _ _ (T0.setTop (mkF m 12 #[.val (.long q1), .second] [(.long (2147483647 : Int64)), (.long q1)]))
    refine ownVia (fun _ k => XS.lcmp X0.here hx rfl (hb hby d1_12) rfl k) ?_
    show ownFin _ _ _ _ _ (T0.setTop (mkF m 13 #[.val (.long q1), .second] [(.int (lcmpW q1 (2147483647 : Int64)))]))
    by_cases hc3 : (2147483647 : Int64) < q1
    case pos =>
      have hc3I : 2147483647 < q1.toInt := (own_ltl (by decide) rfl).mp hc3
      refine ownVia (fun _ k => XS.ifYes X0.here hx rfl (pc0 := 13) (pc' := 20) rfl (hb hby d1_13) rfl ((if0 _ _).trans (tlt ((lw_gt _ _).mpr hc3)).2.2.1) (by decide) (by decide) k) ?_
      show ownFin _ _ _ _ _ (T0.setTop (mkF m 20 #[.val (.long q1), .second] []))
      refine ownVia (fun _ k => XS.iconst X0.here hx rfl (hb hby d1_20) k) ?_
      show ownFin _ _ _ _ _ (T0.setTop (mkF m 21 #[.val (.long q1), .second] [(.int (0 : Int32))]))
      refine ownRetZ X0 hx hlk hret (hb hby d1_21) (by decide) (by decide) (Or.inl rfl) ?_
      show (Q_own_isla Z q1 h0 n0 ) (some (.int (0 : Int32))) T0.heap _
      rw [e0]
      exact ⟨by rw [own_la_hi hc3], N0, rfl⟩
    case neg =>
      have hc3I : ¬ 2147483647 < q1.toInt := fun q => hc3 ((own_ltl (by decide) rfl).mpr q)
      refine ownVia (fun _ k => XS.ifNo X0.here hx rfl (hb hby d1_13) rfl ((if0 _ _).trans (flt (fun q => hc3 ((lw_gt _ _).mp q))).2.2.1) k) ?_
      show ownFin _ _ _ _ _ (T0.setTop (mkF m 16 #[.val (.long q1), .second] []))
      refine ownVia (fun _ k => XS.iconst X0.here hx rfl (hb hby d1_16) k) ?_
      show ownFin _ _ _ _ _ (T0.setTop (mkF m 17 #[.val (.long q1), .second] [(.int (1 : Int32))]))
      refine ownVia (fun _ k => XS.goto X0.here hx rfl (pc0 := 17) (pc' := 21) rfl (hb hby d1_17) (by decide) (by decide) k) ?_
      show ownFin _ _ _ _ _ (T0.setTop (mkF m 21 #[.val (.long q1), .second] [(.int (1 : Int32))]))
      refine ownRetZ X0 hx hlk hret (hb hby d1_21) (by decide) (by decide) (Or.inr rfl) ?_
      show (Q_own_isla Z q1 h0 n0 ) (some (.int (1 : Int32))) T0.heap _
      rw [e0]
      exact ⟨by rw [own_la_in hc2 hc3], N0, rfl⟩
theorem d2_0 : decode method_2_code 0 = .ok (.lload_n 0, 1) := by decide +kernel
theorem d2_1 : decode method_2_code 1 = .ok (.l2i, 1) := by decide +kernel
theorem d2_2 : decode method_2_code 2 = .ok (.istore_n 2, 1) := by decide +kernel
theorem d2_3 : decode method_2_code 3 = .ok (.iload_n 2, 1) := by decide +kernel
theorem d2_4 : decode method_2_code 4 = .ok (.i2l, 1) := by decide +kernel
theorem d2_5 : decode method_2_code 5 = .ok (.lload_n 0, 1) := by decide +kernel
theorem d2_6 : decode method_2_code 6 = .ok (.lcmp, 1) := by decide +kernel
theorem d2_7 : decode method_2_code 7 = .ok (.ifCond .ne 13, 3) := by decide +kernel
theorem d2_10 : decode method_2_code 10 = .ok (.iload_n 2, 1) := by decide +kernel
theorem d2_11 : decode method_2_code 11 = .ok (.ldc 9, 2) := by decide +kernel
theorem d2_13 : decode method_2_code 13 = .ok (.if_icmp .eq 7, 3) := by decide +kernel
theorem d2_16 : decode method_2_code 16 = .ok (.iconst 1, 1) := by decide +kernel
theorem d2_17 : decode method_2_code 17 = .ok (.goto 4, 3) := by decide +kernel
theorem d2_20 : decode method_2_code 20 = .ok (.iconst 0, 1) := by decide +kernel
theorem d2_21 : decode method_2_code 21 = .ok (.ireturn, 1) := by decide +kernel
theorem own_pn1 : plainName "com/example/tillbridge/tillbridge/channel/BillIsLineAmountPinLaw" = true := by first | (simp [plainName, overriddenIn]; done) | decide +kernel
theorem own_ef4 (m : MethodId) (q1 : Int64) : entryFrame m #[(.long q1)] 3 = mkF m 0 #[.val (.long q1), .second, .unset] [] := by first | (simp [entryFrame, mkF, argsToLocals, Value.category]; done) | rfl
def Q_own_ref (Z : State) (q1 : Int64) (h0 : Heap) (n0 : Nat)  : Option Value → Heap → List Loc → Prop := fun v h L => v = some (.int (own_la q1)) ∧ Fr n0 L ∧ h = h0
set_option maxRecDepth 65536 in
set_option maxHeartbeats 40000000 in
theorem own_ref (l : Launch) (Z : State) (a0 : Array Value) (hw : ∀ d ∈ tables_1, d.before a0 Z = true)  (q1 : Int64) (h0 : Heap) (n0 : Nat)  (Z0 : n0 ≤ h0.size)  :
    ownMet l Z (⟨"com/example/tillbridge/tillbridge/channel/BillIsLineAmountPinLaw", "ref", "(J)Z"⟩ : MethodName) method_2_code 3 (some .boolean) [] ({ frames := 0, cells := 0, slots := 0, locals := 0 } : Room) #[(.long q1)] h0 (Q_own_ref Z q1 h0 n0 ) := by
  refine ownBody (plainFor_of_name own_pn1) ?_
  intro p e s m below meth c T0 hx hby hml hret hlk hZ hown hnm X0 e0
  have N0 : Fr n0 [] := Fr.nil n0
  refine ownVia (fun _ k => castTop (own_ef4 m q1) k) ?_
  show ownFin _ _ _ _ _ (T0.setTop (mkF m 0 #[.val (.long q1), .second, .unset] []))
  refine ownVia (fun _ k => XS.lloadN X0.here hx rfl (hb hby d2_0) rfl k) ?_
  show ownFin _ _ _ _ _ (T0.setTop (mkF m 1 #[.val (.long q1), .second, .unset] [(.long q1)]))
  refine ownVia (fun _ k => XS.l2i X0.here hx rfl (hb hby d2_1) rfl k) ?_
  show ownFin _ _ _ _ _ (T0.setTop (mkF m 2 #[.val (.long q1), .second, .unset] [(.int (q1.toInt32))]))
  refine ownVia (fun _ k => XS.istoreN X0.here hx rfl (hb hby d2_2) rfl (l' := #[.val (.long q1), .second, .val (.int (q1.toInt32))]) rfl k) ?_
  show ownFin _ _ _ _ _ (T0.setTop (mkF m 3 #[.val (.long q1), .second, .val (.int (q1.toInt32))] []))
  refine ownVia (fun _ k => XS.iloadN X0.here hx rfl (hb hby d2_3) rfl k) ?_
  show ownFin _ _ _ _ _ (T0.setTop (mkF m 4 #[.val (.long q1), .second, .val (.int (q1.toInt32))] [(.int (q1.toInt32))]))
  refine ownVia (fun _ k => XS.i2l X0.here hx rfl (hb hby d2_4) rfl k) ?_
  show ownFin _ _ _ _ _ (T0.setTop (mkF m 5 #[.val (.long q1), .second, .val (.int (q1.toInt32))] [(.long ((q1.toInt32).toInt64))]))
  refine ownVia (fun _ k => XS.lloadN X0.here hx rfl (hb hby d2_5) rfl k) ?_
  show ownFin _ _ _ _ _ (T0.setTop (mkF m 6 #[.val (.long q1), .second, .val (.int (q1.toInt32))] [(.long q1), (.long ((q1.toInt32).toInt64))]))
  refine ownVia (fun _ k => XS.lcmp X0.here hx rfl (hb hby d2_6) rfl k) ?_
  show ownFin _ _ _ _ _ (T0.setTop (mkF m 7 #[.val (.long q1), .second, .val (.int (q1.toInt32))] [(.int (lcmpW ((q1.toInt32).toInt64) q1))]))
  by_cases hc5 : ((q1.toInt32).toInt64) = q1
  case pos =>
    have hc5I : ((q1.toInt32).toInt64).toInt = q1.toInt := (own_eql rfl rfl).mp hc5
    refine ownVia (fun _ k => XS.ifNo X0.here hx rfl (hb hby d2_7) rfl ((if0 _ _).trans (teq ((lw_eq _ _).mpr hc5)).2) k) ?_
    show ownFin _ _ _ _ _ (T0.setTop (mkF m 10 #[.val (.long q1), .second, .val (.int (q1.toInt32))] []))
    refine ownVia (fun _ k => XS.iloadN X0.here hx rfl (hb hby d2_10) rfl k) ?_
    show ownFin _ _ _ _ _ (T0.setTop (mkF m 11 #[.val (.long q1), .second, .val (.int (q1.toInt32))] [(.int (q1.toInt32))]))
    refine ownVia (fun _ k => X0.ldcInt hx hown (mvT hZ (hw _ (List.mem_of_getElem? (i := 12) rfl))) (g := (mkF m 11 #[.val (.long q1), .second, .val (.int (q1.toInt32))] [(.int (q1.toInt32))])) rfl (hb hby d2_11) _ k) ?_
    show ownFin _ _ _ _ _ (T0.setTop (mkF m 13 #[.val (.long q1), .second, .val (.int (q1.toInt32))] [(.int (-2147483648 : Int32)), (.int (q1.toInt32))]))
    by_cases hc6 : (q1.toInt32) = (-2147483648 : Int32)
    case pos =>
      have hc6I : (q1.toInt32).toInt = -2147483648 := (own_eqi rfl (by decide)).mp hc6
      refine ownVia (fun _ k => XS.icmpYes X0.here hx rfl (pc0 := 13) (pc' := 20) rfl (hb hby d2_13) rfl (teq hc6).1 (by decide) (by decide) k) ?_
      show ownFin _ _ _ _ _ (T0.setTop (mkF m 20 #[.val (.long q1), .second, .val (.int (q1.toInt32))] []))
      refine ownVia (fun _ k => XS.iconst X0.here hx rfl (hb hby d2_20) k) ?_
      show ownFin _ _ _ _ _ (T0.setTop (mkF m 21 #[.val (.long q1), .second, .val (.int (q1.toInt32))] [(.int (0 : Int32))]))
      refine ownRetZ X0 hx hlk hret (hb hby d2_21) (by decide) (by decide) (Or.inl rfl) ?_
      show (Q_own_ref Z q1 h0 n0 ) (some (.int (0 : Int32))) T0.heap _
      rw [e0]
      exact ⟨by rw [own_ref1 hc5 hc6], N0, rfl⟩
    case neg =>
      have hc6I : ¬ (q1.toInt32).toInt = -2147483648 := fun q => hc6 ((own_eqi rfl (by decide)).mpr q)
      refine ownVia (fun _ k => XS.icmpNo X0.here hx rfl (hb hby d2_13) rfl (feq hc6).1 k) ?_
      show ownFin _ _ _ _ _ (T0.setTop (mkF m 16 #[.val (.long q1), .second, .val (.int (q1.toInt32))] []))
      refine ownVia (fun _ k => XS.iconst X0.here hx rfl (hb hby d2_16) k) ?_
      show ownFin _ _ _ _ _ (T0.setTop (mkF m 17 #[.val (.long q1), .second, .val (.int (q1.toInt32))] [(.int (1 : Int32))]))
      refine ownVia (fun _ k => XS.goto X0.here hx rfl (pc0 := 17) (pc' := 21) rfl (hb hby d2_17) (by decide) (by decide) k) ?_
      show ownFin _ _ _ _ _ (T0.setTop (mkF m 21 #[.val (.long q1), .second, .val (.int (q1.toInt32))] [(.int (1 : Int32))]))
      refine ownRetZ X0 hx hlk hret (hb hby d2_21) (by decide) (by decide) (Or.inr rfl) ?_
      show (Q_own_ref Z q1 h0 n0 ) (some (.int (1 : Int32))) T0.heap _
      rw [e0]
      exact ⟨by rw [own_ref2 hc5 hc6], N0, rfl⟩
  case neg =>
    have hc5I : ¬ ((q1.toInt32).toInt64).toInt = q1.toInt := fun q => hc5 ((own_eql rfl rfl).mpr q)
    refine ownVia (fun _ k => XS.ifYes X0.here hx rfl (pc0 := 7) (pc' := 20) rfl (hb hby d2_7) rfl ((if0 _ _).trans (feq (fun q => hc5 ((lw_eq _ _).mp q))).2) (by decide) (by decide) k) ?_
    show ownFin _ _ _ _ _ (T0.setTop (mkF m 20 #[.val (.long q1), .second, .val (.int (q1.toInt32))] []))
    refine ownVia (fun _ k => XS.iconst X0.here hx rfl (hb hby d2_20) k) ?_
    show ownFin _ _ _ _ _ (T0.setTop (mkF m 21 #[.val (.long q1), .second, .val (.int (q1.toInt32))] [(.int (0 : Int32))]))
    refine ownRetZ X0 hx hlk hret (hb hby d2_21) (by decide) (by decide) (Or.inl rfl) ?_
    show (Q_own_ref Z q1 h0 n0 ) (some (.int (0 : Int32))) T0.heap _
    rw [e0]
    exact ⟨by rw [own_ref3 hc5], N0, rfl⟩
theorem own_ef7 (m : MethodId) (q1 : Int64) (p1 : Int32) : entryFrame m #[(.long q1), (.int p1)] maxLocals = mkF m 0 #[.val (.long q1), .second, .val (.int p1), .unset, .unset, .unset, .unset, .unset, .unset, .unset, .unset, .unset, .unset] [] := by first | (simp [entryFrame, mkF, argsToLocals, Value.category, maxLocals]; done) | rfl
def Q_own_law (Z : State) (q1 : Int64) (p1 : Int32) (h0 : Heap) (n0 : Nat)  : Option Value → Heap → List Loc → Prop := fun v h L => v = some (.int 1) ∧ Fr n0 L
theorem own_pd0 : parseMethodDescriptor "(J)Z" = some ⟨[.long], some .boolean⟩ := by decide +kernel
set_option maxRecDepth 65536 in
set_option maxHeartbeats 40000000 in
theorem own_law (l : Launch) (Z : State) (a0 : Array Value) (hw : ∀ d ∈ tables_1, d.before a0 Z = true) (ws : List Jvm.Cond) (q1 : Int64) (p1 : Int32) (h0 : Heap) (n0 : Nat)  (Z0 : n0 ≤ h0.size)  :
    ownMet l Z x code maxLocals ret ws room_1 #[(.long q1), (.int p1)] h0 (Q_own_law Z q1 p1 h0 n0 ) := by
  refine ownBody (plainFor_of_name own_pn1) ?_
  intro p e s m below meth c T0 hx hby hml hret hlk hZ hown hnm X0 e0
  have N0 : Fr n0 [] := Fr.nil n0
  have hown : s.vm.findClass "com/example/tillbridge/tillbridge/channel/BillIsLineAmountPinLaw" = some m.cls := hown
  refine ownVia (fun _ k => castTop (own_ef7 m q1 p1) k) ?_
  show ownFin _ _ _ _ _ (T0.setTop (mkF m 0 #[.val (.long q1), .second, .val (.int p1), .unset, .unset, .unset, .unset, .unset, .unset, .unset, .unset, .unset, .unset] []))
  refine ownVia (fun _ k => XS.iloadN X0.here hx rfl (hb hby at_0) rfl k) ?_
  show ownFin _ _ _ _ _ (T0.setTop (mkF m 1 #[.val (.long q1), .second, .val (.int p1), .unset, .unset, .unset, .unset, .unset, .unset, .unset, .unset, .unset, .unset] [(.int p1)]))
  refine ownVia (fun _ k => XS.bipush X0.here hx rfl (hb hby at_1) k) ?_
  show ownFin _ _ _ _ _ (T0.setTop (mkF m 3 #[.val (.long q1), .second, .val (.int p1), .unset, .unset, .unset, .unset, .unset, .unset, .unset, .unset, .unset, .unset] [(.int (7 : Int32)), (.int p1)]))
  refine ownVia (fun _ k => XS.iand X0.here hx rfl (hb hby at_3) rfl k) ?_
  show ownFin _ _ _ _ _ (T0.setTop (mkF m 4 #[.val (.long q1), .second, .val (.int p1), .unset, .unset, .unset, .unset, .unset, .unset, .unset, .unset, .unset, .unset] [(.int (p1 &&& (7 : Int32)))]))
  refine ownVia (fun _ k => XS.iconst X0.here hx rfl (hb hby at_4) k) ?_
  show ownFin _ _ _ _ _ (T0.setTop (mkF m 5 #[.val (.long q1), .second, .val (.int p1), .unset, .unset, .unset, .unset, .unset, .unset, .unset, .unset, .unset, .unset] [(.int (4 : Int32)), (.int (p1 &&& (7 : Int32)))]))
  refine ownVia (fun _ k => XS.isub X0.here hx rfl (hb hby at_5) rfl k) ?_
  show ownFin _ _ _ _ _ (T0.setTop (mkF m 6 #[.val (.long q1), .second, .val (.int p1), .unset, .unset, .unset, .unset, .unset, .unset, .unset, .unset, .unset, .unset] [(.int ((p1 &&& (7 : Int32)) - (4 : Int32)))]))
  refine ownVia (fun _ k => XS.i2l X0.here hx rfl (hb hby at_6) rfl k) ?_
  show ownFin _ _ _ _ _ (T0.setTop (mkF m 7 #[.val (.long q1), .second, .val (.int p1), .unset, .unset, .unset, .unset, .unset, .unset, .unset, .unset, .unset, .unset] [(.long (((p1 &&& (7 : Int32)) - (4 : Int32)).toInt64))]))
  refine ownVia (fun _ k => XS.lstoreN X0.here hx rfl (hb hby at_7) rfl (l' := #[.val (.long q1), .second, .val (.int p1), .val (.long (((p1 &&& (7 : Int32)) - (4 : Int32)).toInt64)), .second, .unset, .unset, .unset, .unset, .unset, .unset, .unset, .unset]) rfl k) ?_
  show ownFin _ _ _ _ _ (T0.setTop (mkF m 8 #[.val (.long q1), .second, .val (.int p1), .val (.long (((p1 &&& (7 : Int32)) - (4 : Int32)).toInt64)), .second, .unset, .unset, .unset, .unset, .unset, .unset, .unset, .unset] []))
  refine ownVia (fun _ k => X0.ldc2Long hx hown (mvT hZ (hw _ (List.mem_of_getElem? (i := 0) rfl))) (g := (mkF m 8 #[.val (.long q1), .second, .val (.int p1), .val (.long (((p1 &&& (7 : Int32)) - (4 : Int32)).toInt64)), .second, .unset, .unset, .unset, .unset, .unset, .unset, .unset, .unset] [])) rfl (hb hby at_8) _ k) ?_
  show ownFin _ _ _ _ _ (T0.setTop (mkF m 11 #[.val (.long q1), .second, .val (.int p1), .val (.long (((p1 &&& (7 : Int32)) - (4 : Int32)).toInt64)), .second, .unset, .unset, .unset, .unset, .unset, .unset, .unset, .unset] [(.long (2147483647 : Int64))]))
  refine ownVia (fun _ k => XS.lloadN X0.here hx rfl (hb hby at_11) rfl k) ?_
  show ownFin _ _ _ _ _ (T0.setTop (mkF m 12 #[.val (.long q1), .second, .val (.int p1), .val (.long (((p1 &&& (7 : Int32)) - (4 : Int32)).toInt64)), .second, .unset, .unset, .unset, .unset, .unset, .unset, .unset, .unset] [(.long (((p1 &&& (7 : Int32)) - (4 : Int32)).toInt64)), (.long (2147483647 : Int64))]))
  refine ownVia (fun _ k => XS.ladd X0.here hx rfl (hb hby at_12) rfl k) ?_
  show ownFin _ _ _ _ _ (T0.setTop (mkF m 13 #[.val (.long q1), .second, .val (.int p1), .val (.long (((p1 &&& (7 : Int32)) - (4 : Int32)).toInt64)), .second, .unset, .unset, .unset, .unset, .unset, .unset, .unset, .unset] [(.long ((2147483647 : Int64) + (((p1 &&& (7 : Int32)) - (4 : Int32)).toInt64)))]))
  refine ownVia (fun _ k => XS.lstore X0.here hx rfl (hb hby at_13) rfl (l' := #[.val (.long q1), .second, .val (.int p1), .val (.long (((p1 &&& (7 : Int32)) - (4 : Int32)).toInt64)), .second, .val (.long ((2147483647 : Int64) + (((p1 &&& (7 : Int32)) - (4 : Int32)).toInt64))), .second, .unset, .unset, .unset, .unset, .unset, .unset]) rfl k) ?_
  show ownFin _ _ _ _ _ (T0.setTop (mkF m 15 #[.val (.long q1), .second, .val (.int p1), .val (.long (((p1 &&& (7 : Int32)) - (4 : Int32)).toInt64)), .second, .val (.long ((2147483647 : Int64) + (((p1 &&& (7 : Int32)) - (4 : Int32)).toInt64))), .second, .unset, .unset, .unset, .unset, .unset, .unset] []))
  refine ownVia (fun _ k => X0.ldc2Long hx hown (mvT hZ (hw _ (List.mem_of_getElem? (i := 1) rfl))) (g := (mkF m 15 #[.val (.long q1), .second, .val (.int p1), .val (.long (((p1 &&& (7 : Int32)) - (4 : Int32)).toInt64)), .second, .val (.long ((2147483647 : Int64) + (((p1 &&& (7 : Int32)) - (4 : Int32)).toInt64))), .second, .unset, .unset, .unset, .unset, .unset, .unset] [])) rfl (hb hby at_15) _ k) ?_
  show ownFin _ _ _ _ _ (T0.setTop (mkF m 18 #[.val (.long q1), .second, .val (.int p1), .val (.long (((p1 &&& (7 : Int32)) - (4 : Int32)).toInt64)), .second, .val (.long ((2147483647 : Int64) + (((p1 &&& (7 : Int32)) - (4 : Int32)).toInt64))), .second, .unset, .unset, .unset, .unset, .unset, .unset] [(.long (-2147483647 : Int64))]))
  refine ownVia (fun _ k => XS.lloadN X0.here hx rfl (hb hby at_18) rfl k) ?_
  show ownFin _ _ _ _ _ (T0.setTop (mkF m 19 #[.val (.long q1), .second, .val (.int p1), .val (.long (((p1 &&& (7 : Int32)) - (4 : Int32)).toInt64)), .second, .val (.long ((2147483647 : Int64) + (((p1 &&& (7 : Int32)) - (4 : Int32)).toInt64))), .second, .unset, .unset, .unset, .unset, .unset, .unset] [(.long (((p1 &&& (7 : Int32)) - (4 : Int32)).toInt64)), (.long (-2147483647 : Int64))]))
  refine ownVia (fun _ k => XS.ladd X0.here hx rfl (hb hby at_19) rfl k) ?_
  show ownFin _ _ _ _ _ (T0.setTop (mkF m 20 #[.val (.long q1), .second, .val (.int p1), .val (.long (((p1 &&& (7 : Int32)) - (4 : Int32)).toInt64)), .second, .val (.long ((2147483647 : Int64) + (((p1 &&& (7 : Int32)) - (4 : Int32)).toInt64))), .second, .unset, .unset, .unset, .unset, .unset, .unset] [(.long ((-2147483647 : Int64) + (((p1 &&& (7 : Int32)) - (4 : Int32)).toInt64)))]))
  refine ownVia (fun _ k => XS.lstore X0.here hx rfl (hb hby at_20) rfl (l' := #[.val (.long q1), .second, .val (.int p1), .val (.long (((p1 &&& (7 : Int32)) - (4 : Int32)).toInt64)), .second, .val (.long ((2147483647 : Int64) + (((p1 &&& (7 : Int32)) - (4 : Int32)).toInt64))), .second, .val (.long ((-2147483647 : Int64) + (((p1 &&& (7 : Int32)) - (4 : Int32)).toInt64))), .second, .unset, .unset, .unset, .unset]) rfl k) ?_
  show ownFin _ _ _ _ _ (T0.setTop (mkF m 22 #[.val (.long q1), .second, .val (.int p1), .val (.long (((p1 &&& (7 : Int32)) - (4 : Int32)).toInt64)), .second, .val (.long ((2147483647 : Int64) + (((p1 &&& (7 : Int32)) - (4 : Int32)).toInt64))), .second, .val (.long ((-2147483647 : Int64) + (((p1 &&& (7 : Int32)) - (4 : Int32)).toInt64))), .second, .unset, .unset, .unset, .unset] []))
  refine ownVia (fun _ k => XS.lloadN X0.here hx rfl (hb hby at_22) rfl k) ?_
  show ownFin _ _ _ _ _ (T0.setTop (mkF m 23 #[.val (.long q1), .second, .val (.int p1), .val (.long (((p1 &&& (7 : Int32)) - (4 : Int32)).toInt64)), .second, .val (.long ((2147483647 : Int64) + (((p1 &&& (7 : Int32)) - (4 : Int32)).toInt64))), .second, .val (.long ((-2147483647 : Int64) + (((p1 &&& (7 : Int32)) - (4 : Int32)).toInt64))), .second, .unset, .unset, .unset, .unset] [(.long q1)]))
  refine ownCallS X0 hx hZ hown (hw _ (List.mem_of_getElem? (i := 2) rfl)) (hw _ (List.mem_of_getElem? (i := 3) rfl)) (hw _ (List.mem_of_getElem? (i := 4) rfl)) (hw _ (List.mem_of_getElem? (i := 5) rfl)) (by decide) e0 (own_isla l Z a0 hw q1 h0 n0 Z0) (by rw [hml]; rfl) [(.long q1)] [] (lenOf own_pd0 rfl) rfl rfl 0 rfl (hb hby at_23) (by decide) (by decide) (by decide) (by decide) ?_
  intro v8 T8 L8 X8 hq8
  obtain ⟨rfl, N8q, eq8⟩ := hq8
  have N8 := Fr.app N0 N8q
  have e8 : T8.heap = h0 := eq8
  show ownFin _ _ _ _ _ (T8.setTop (mkF m 26 #[.val (.long q1), .second, .val (.int p1), .val (.long (((p1 &&& (7 : Int32)) - (4 : Int32)).toInt64)), .second, .val (.long ((2147483647 : Int64) + (((p1 &&& (7 : Int32)) - (4 : Int32)).toInt64))), .second, .val (.long ((-2147483647 : Int64) + (((p1 &&& (7 : Int32)) - (4 : Int32)).toInt64))), .second, .unset, .unset, .unset, .unset] [(.int (own_la q1))]))
  refine ownVia (fun _ k => XS.lloadN X8.here hx rfl (hb hby at_26) rfl k) ?_
  show ownFin _ _ _ _ _ (T8.setTop (mkF m 27 #[.val (.long q1), .second, .val (.int p1), .val (.long (((p1 &&& (7 : Int32)) - (4 : Int32)).toInt64)), .second, .val (.long ((2147483647 : Int64) + (((p1 &&& (7 : Int32)) - (4 : Int32)).toInt64))), .second, .val (.long ((-2147483647 : Int64) + (((p1 &&& (7 : Int32)) - (4 : Int32)).toInt64))), .second, .unset, .unset, .unset, .unset] [(.long q1), (.int (own_la q1))]))
  refine ownCallS X8 hx hZ hown (hw _ (List.mem_of_getElem? (i := 8) rfl)) (hw _ (List.mem_of_getElem? (i := 9) rfl)) (hw _ (List.mem_of_getElem? (i := 10) rfl)) (hw _ (List.mem_of_getElem? (i := 11) rfl)) (by decide) e8 (own_ref l Z a0 hw q1 h0 n0 Z0) (by rw [hml]; rfl) [(.long q1)] [(.int (own_la q1))] (lenOf own_pd0 rfl) rfl rfl 1 rfl (hb hby at_27) (by decide) (by decide) (by decide) (by decide) ?_
  intro v9 T9 L9 X9 hq9
  obtain ⟨rfl, N9q, eq9⟩ := hq9
  have N9 := Fr.app N8 N9q
  have e9 : T9.heap = h0 := eq9
  show ownFin _ _ _ _ _ (T9.setTop (mkF m 30 #[.val (.long q1), .second, .val (.int p1), .val (.long (((p1 &&& (7 : Int32)) - (4 : Int32)).toInt64)), .second, .val (.long ((2147483647 : Int64) + (((p1 &&& (7 : Int32)) - (4 : Int32)).toInt64))), .second, .val (.long ((-2147483647 : Int64) + (((p1 &&& (7 : Int32)) - (4 : Int32)).toInt64))), .second, .unset, .unset, .unset, .unset] [(.int (own_la q1)), (.int (own_la q1))]))
  refine ownVia (fun _ k => XS.icmpNo X9.here hx rfl (hb hby at_30) rfl (teq rfl).2 k) ?_
  show ownFin _ _ _ _ _ (T9.setTop (mkF m 33 #[.val (.long q1), .second, .val (.int p1), .val (.long (((p1 &&& (7 : Int32)) - (4 : Int32)).toInt64)), .second, .val (.long ((2147483647 : Int64) + (((p1 &&& (7 : Int32)) - (4 : Int32)).toInt64))), .second, .val (.long ((-2147483647 : Int64) + (((p1 &&& (7 : Int32)) - (4 : Int32)).toInt64))), .second, .unset, .unset, .unset, .unset] []))
  refine ownVia (fun _ k => XS.iconst X9.here hx rfl (hb hby at_33) k) ?_
  show ownFin _ _ _ _ _ (T9.setTop (mkF m 34 #[.val (.long q1), .second, .val (.int p1), .val (.long (((p1 &&& (7 : Int32)) - (4 : Int32)).toInt64)), .second, .val (.long ((2147483647 : Int64) + (((p1 &&& (7 : Int32)) - (4 : Int32)).toInt64))), .second, .val (.long ((-2147483647 : Int64) + (((p1 &&& (7 : Int32)) - (4 : Int32)).toInt64))), .second, .unset, .unset, .unset, .unset] [(.int (1 : Int32))]))
  refine ownVia (fun _ k => XS.goto X9.here hx rfl (pc0 := 34) (pc' := 38) rfl (hb hby at_34) (by decide) (by decide) k) ?_
  show ownFin _ _ _ _ _ (T9.setTop (mkF m 38 #[.val (.long q1), .second, .val (.int p1), .val (.long (((p1 &&& (7 : Int32)) - (4 : Int32)).toInt64)), .second, .val (.long ((2147483647 : Int64) + (((p1 &&& (7 : Int32)) - (4 : Int32)).toInt64))), .second, .val (.long ((-2147483647 : Int64) + (((p1 &&& (7 : Int32)) - (4 : Int32)).toInt64))), .second, .unset, .unset, .unset, .unset] [(.int (1 : Int32))]))
  refine ownVia (fun _ k => XS.istore X9.here hx rfl (hb hby at_38) rfl (l' := #[.val (.long q1), .second, .val (.int p1), .val (.long (((p1 &&& (7 : Int32)) - (4 : Int32)).toInt64)), .second, .val (.long ((2147483647 : Int64) + (((p1 &&& (7 : Int32)) - (4 : Int32)).toInt64))), .second, .val (.long ((-2147483647 : Int64) + (((p1 &&& (7 : Int32)) - (4 : Int32)).toInt64))), .second, .val (.int (1 : Int32)), .unset, .unset, .unset]) rfl k) ?_
  show ownFin _ _ _ _ _ (T9.setTop (mkF m 40 #[.val (.long q1), .second, .val (.int p1), .val (.long (((p1 &&& (7 : Int32)) - (4 : Int32)).toInt64)), .second, .val (.long ((2147483647 : Int64) + (((p1 &&& (7 : Int32)) - (4 : Int32)).toInt64))), .second, .val (.long ((-2147483647 : Int64) + (((p1 &&& (7 : Int32)) - (4 : Int32)).toInt64))), .second, .val (.int (1 : Int32)), .unset, .unset, .unset] []))
  refine ownVia (fun _ k => XS.lload X9.here hx rfl (hb hby at_40) rfl k) ?_
  show ownFin _ _ _ _ _ (T9.setTop (mkF m 42 #[.val (.long q1), .second, .val (.int p1), .val (.long (((p1 &&& (7 : Int32)) - (4 : Int32)).toInt64)), .second, .val (.long ((2147483647 : Int64) + (((p1 &&& (7 : Int32)) - (4 : Int32)).toInt64))), .second, .val (.long ((-2147483647 : Int64) + (((p1 &&& (7 : Int32)) - (4 : Int32)).toInt64))), .second, .val (.int (1 : Int32)), .unset, .unset, .unset] [(.long ((2147483647 : Int64) + (((p1 &&& (7 : Int32)) - (4 : Int32)).toInt64)))]))
  refine ownCallS X9 hx hZ hown (hw _ (List.mem_of_getElem? (i := 2) rfl)) (hw _ (List.mem_of_getElem? (i := 3) rfl)) (hw _ (List.mem_of_getElem? (i := 4) rfl)) (hw _ (List.mem_of_getElem? (i := 5) rfl)) (by decide) e9 (own_isla l Z a0 hw ((2147483647 : Int64) + (((p1 &&& (7 : Int32)) - (4 : Int32)).toInt64)) h0 n0 Z0) (by rw [hml]; rfl) [(.long ((2147483647 : Int64) + (((p1 &&& (7 : Int32)) - (4 : Int32)).toInt64)))] [] (lenOf own_pd0 rfl) rfl rfl 0 rfl (hb hby at_42) (by decide) (by decide) (by decide) (by decide) ?_
  intro v10 T10 L10 X10 hq10
  obtain ⟨rfl, N10q, eq10⟩ := hq10
  have N10 := Fr.app N9 N10q
  have e10 : T10.heap = h0 := eq10
  show ownFin _ _ _ _ _ (T10.setTop (mkF m 45 #[.val (.long q1), .second, .val (.int p1), .val (.long (((p1 &&& (7 : Int32)) - (4 : Int32)).toInt64)), .second, .val (.long ((2147483647 : Int64) + (((p1 &&& (7 : Int32)) - (4 : Int32)).toInt64))), .second, .val (.long ((-2147483647 : Int64) + (((p1 &&& (7 : Int32)) - (4 : Int32)).toInt64))), .second, .val (.int (1 : Int32)), .unset, .unset, .unset] [(.int (own_la ((2147483647 : Int64) + (((p1 &&& (7 : Int32)) - (4 : Int32)).toInt64))))]))
  refine ownVia (fun _ k => XS.lload X10.here hx rfl (hb hby at_45) rfl k) ?_
  show ownFin _ _ _ _ _ (T10.setTop (mkF m 47 #[.val (.long q1), .second, .val (.int p1), .val (.long (((p1 &&& (7 : Int32)) - (4 : Int32)).toInt64)), .second, .val (.long ((2147483647 : Int64) + (((p1 &&& (7 : Int32)) - (4 : Int32)).toInt64))), .second, .val (.long ((-2147483647 : Int64) + (((p1 &&& (7 : Int32)) - (4 : Int32)).toInt64))), .second, .val (.int (1 : Int32)), .unset, .unset, .unset] [(.long ((2147483647 : Int64) + (((p1 &&& (7 : Int32)) - (4 : Int32)).toInt64))), (.int (own_la ((2147483647 : Int64) + (((p1 &&& (7 : Int32)) - (4 : Int32)).toInt64))))]))
  refine ownCallS X10 hx hZ hown (hw _ (List.mem_of_getElem? (i := 8) rfl)) (hw _ (List.mem_of_getElem? (i := 9) rfl)) (hw _ (List.mem_of_getElem? (i := 10) rfl)) (hw _ (List.mem_of_getElem? (i := 11) rfl)) (by decide) e10 (own_ref l Z a0 hw ((2147483647 : Int64) + (((p1 &&& (7 : Int32)) - (4 : Int32)).toInt64)) h0 n0 Z0) (by rw [hml]; rfl) [(.long ((2147483647 : Int64) + (((p1 &&& (7 : Int32)) - (4 : Int32)).toInt64)))] [(.int (own_la ((2147483647 : Int64) + (((p1 &&& (7 : Int32)) - (4 : Int32)).toInt64))))] (lenOf own_pd0 rfl) rfl rfl 1 rfl (hb hby at_47) (by decide) (by decide) (by decide) (by decide) ?_
  intro v11 T11 L11 X11 hq11
  obtain ⟨rfl, N11q, eq11⟩ := hq11
  have N11 := Fr.app N10 N11q
  have e11 : T11.heap = h0 := eq11
  show ownFin _ _ _ _ _ (T11.setTop (mkF m 50 #[.val (.long q1), .second, .val (.int p1), .val (.long (((p1 &&& (7 : Int32)) - (4 : Int32)).toInt64)), .second, .val (.long ((2147483647 : Int64) + (((p1 &&& (7 : Int32)) - (4 : Int32)).toInt64))), .second, .val (.long ((-2147483647 : Int64) + (((p1 &&& (7 : Int32)) - (4 : Int32)).toInt64))), .second, .val (.int (1 : Int32)), .unset, .unset, .unset] [(.int (own_la ((2147483647 : Int64) + (((p1 &&& (7 : Int32)) - (4 : Int32)).toInt64)))), (.int (own_la ((2147483647 : Int64) + (((p1 &&& (7 : Int32)) - (4 : Int32)).toInt64))))]))
  refine ownVia (fun _ k => XS.icmpNo X11.here hx rfl (hb hby at_50) rfl (teq rfl).2 k) ?_
  show ownFin _ _ _ _ _ (T11.setTop (mkF m 53 #[.val (.long q1), .second, .val (.int p1), .val (.long (((p1 &&& (7 : Int32)) - (4 : Int32)).toInt64)), .second, .val (.long ((2147483647 : Int64) + (((p1 &&& (7 : Int32)) - (4 : Int32)).toInt64))), .second, .val (.long ((-2147483647 : Int64) + (((p1 &&& (7 : Int32)) - (4 : Int32)).toInt64))), .second, .val (.int (1 : Int32)), .unset, .unset, .unset] []))
  refine ownVia (fun _ k => XS.iconst X11.here hx rfl (hb hby at_53) k) ?_
  show ownFin _ _ _ _ _ (T11.setTop (mkF m 54 #[.val (.long q1), .second, .val (.int p1), .val (.long (((p1 &&& (7 : Int32)) - (4 : Int32)).toInt64)), .second, .val (.long ((2147483647 : Int64) + (((p1 &&& (7 : Int32)) - (4 : Int32)).toInt64))), .second, .val (.long ((-2147483647 : Int64) + (((p1 &&& (7 : Int32)) - (4 : Int32)).toInt64))), .second, .val (.int (1 : Int32)), .unset, .unset, .unset] [(.int (1 : Int32))]))
  refine ownVia (fun _ k => XS.goto X11.here hx rfl (pc0 := 54) (pc' := 58) rfl (hb hby at_54) (by decide) (by decide) k) ?_
  show ownFin _ _ _ _ _ (T11.setTop (mkF m 58 #[.val (.long q1), .second, .val (.int p1), .val (.long (((p1 &&& (7 : Int32)) - (4 : Int32)).toInt64)), .second, .val (.long ((2147483647 : Int64) + (((p1 &&& (7 : Int32)) - (4 : Int32)).toInt64))), .second, .val (.long ((-2147483647 : Int64) + (((p1 &&& (7 : Int32)) - (4 : Int32)).toInt64))), .second, .val (.int (1 : Int32)), .unset, .unset, .unset] [(.int (1 : Int32))]))
  refine ownVia (fun _ k => XS.istore X11.here hx rfl (hb hby at_58) rfl (l' := #[.val (.long q1), .second, .val (.int p1), .val (.long (((p1 &&& (7 : Int32)) - (4 : Int32)).toInt64)), .second, .val (.long ((2147483647 : Int64) + (((p1 &&& (7 : Int32)) - (4 : Int32)).toInt64))), .second, .val (.long ((-2147483647 : Int64) + (((p1 &&& (7 : Int32)) - (4 : Int32)).toInt64))), .second, .val (.int (1 : Int32)), .val (.int (1 : Int32)), .unset, .unset]) rfl k) ?_
  show ownFin _ _ _ _ _ (T11.setTop (mkF m 60 #[.val (.long q1), .second, .val (.int p1), .val (.long (((p1 &&& (7 : Int32)) - (4 : Int32)).toInt64)), .second, .val (.long ((2147483647 : Int64) + (((p1 &&& (7 : Int32)) - (4 : Int32)).toInt64))), .second, .val (.long ((-2147483647 : Int64) + (((p1 &&& (7 : Int32)) - (4 : Int32)).toInt64))), .second, .val (.int (1 : Int32)), .val (.int (1 : Int32)), .unset, .unset] []))
  refine ownVia (fun _ k => XS.lload X11.here hx rfl (hb hby at_60) rfl k) ?_
  show ownFin _ _ _ _ _ (T11.setTop (mkF m 62 #[.val (.long q1), .second, .val (.int p1), .val (.long (((p1 &&& (7 : Int32)) - (4 : Int32)).toInt64)), .second, .val (.long ((2147483647 : Int64) + (((p1 &&& (7 : Int32)) - (4 : Int32)).toInt64))), .second, .val (.long ((-2147483647 : Int64) + (((p1 &&& (7 : Int32)) - (4 : Int32)).toInt64))), .second, .val (.int (1 : Int32)), .val (.int (1 : Int32)), .unset, .unset] [(.long ((-2147483647 : Int64) + (((p1 &&& (7 : Int32)) - (4 : Int32)).toInt64)))]))
  refine ownCallS X11 hx hZ hown (hw _ (List.mem_of_getElem? (i := 2) rfl)) (hw _ (List.mem_of_getElem? (i := 3) rfl)) (hw _ (List.mem_of_getElem? (i := 4) rfl)) (hw _ (List.mem_of_getElem? (i := 5) rfl)) (by decide) e11 (own_isla l Z a0 hw ((-2147483647 : Int64) + (((p1 &&& (7 : Int32)) - (4 : Int32)).toInt64)) h0 n0 Z0) (by rw [hml]; rfl) [(.long ((-2147483647 : Int64) + (((p1 &&& (7 : Int32)) - (4 : Int32)).toInt64)))] [] (lenOf own_pd0 rfl) rfl rfl 0 rfl (hb hby at_62) (by decide) (by decide) (by decide) (by decide) ?_
  intro v12 T12 L12 X12 hq12
  obtain ⟨rfl, N12q, eq12⟩ := hq12
  have N12 := Fr.app N11 N12q
  have e12 : T12.heap = h0 := eq12
  show ownFin _ _ _ _ _ (T12.setTop (mkF m 65 #[.val (.long q1), .second, .val (.int p1), .val (.long (((p1 &&& (7 : Int32)) - (4 : Int32)).toInt64)), .second, .val (.long ((2147483647 : Int64) + (((p1 &&& (7 : Int32)) - (4 : Int32)).toInt64))), .second, .val (.long ((-2147483647 : Int64) + (((p1 &&& (7 : Int32)) - (4 : Int32)).toInt64))), .second, .val (.int (1 : Int32)), .val (.int (1 : Int32)), .unset, .unset] [(.int (own_la ((-2147483647 : Int64) + (((p1 &&& (7 : Int32)) - (4 : Int32)).toInt64))))]))
  refine ownVia (fun _ k => XS.lload X12.here hx rfl (hb hby at_65) rfl k) ?_
  show ownFin _ _ _ _ _ (T12.setTop (mkF m 67 #[.val (.long q1), .second, .val (.int p1), .val (.long (((p1 &&& (7 : Int32)) - (4 : Int32)).toInt64)), .second, .val (.long ((2147483647 : Int64) + (((p1 &&& (7 : Int32)) - (4 : Int32)).toInt64))), .second, .val (.long ((-2147483647 : Int64) + (((p1 &&& (7 : Int32)) - (4 : Int32)).toInt64))), .second, .val (.int (1 : Int32)), .val (.int (1 : Int32)), .unset, .unset] [(.long ((-2147483647 : Int64) + (((p1 &&& (7 : Int32)) - (4 : Int32)).toInt64))), (.int (own_la ((-2147483647 : Int64) + (((p1 &&& (7 : Int32)) - (4 : Int32)).toInt64))))]))
  refine ownCallS X12 hx hZ hown (hw _ (List.mem_of_getElem? (i := 8) rfl)) (hw _ (List.mem_of_getElem? (i := 9) rfl)) (hw _ (List.mem_of_getElem? (i := 10) rfl)) (hw _ (List.mem_of_getElem? (i := 11) rfl)) (by decide) e12 (own_ref l Z a0 hw ((-2147483647 : Int64) + (((p1 &&& (7 : Int32)) - (4 : Int32)).toInt64)) h0 n0 Z0) (by rw [hml]; rfl) [(.long ((-2147483647 : Int64) + (((p1 &&& (7 : Int32)) - (4 : Int32)).toInt64)))] [(.int (own_la ((-2147483647 : Int64) + (((p1 &&& (7 : Int32)) - (4 : Int32)).toInt64))))] (lenOf own_pd0 rfl) rfl rfl 1 rfl (hb hby at_67) (by decide) (by decide) (by decide) (by decide) ?_
  intro v13 T13 L13 X13 hq13
  obtain ⟨rfl, N13q, eq13⟩ := hq13
  have N13 := Fr.app N12 N13q
  have e13 : T13.heap = h0 := eq13
  show ownFin _ _ _ _ _ (T13.setTop (mkF m 70 #[.val (.long q1), .second, .val (.int p1), .val (.long (((p1 &&& (7 : Int32)) - (4 : Int32)).toInt64)), .second, .val (.long ((2147483647 : Int64) + (((p1 &&& (7 : Int32)) - (4 : Int32)).toInt64))), .second, .val (.long ((-2147483647 : Int64) + (((p1 &&& (7 : Int32)) - (4 : Int32)).toInt64))), .second, .val (.int (1 : Int32)), .val (.int (1 : Int32)), .unset, .unset] [(.int (own_la ((-2147483647 : Int64) + (((p1 &&& (7 : Int32)) - (4 : Int32)).toInt64)))), (.int (own_la ((-2147483647 : Int64) + (((p1 &&& (7 : Int32)) - (4 : Int32)).toInt64))))]))
  refine ownVia (fun _ k => XS.icmpNo X13.here hx rfl (hb hby at_70) rfl (teq rfl).2 k) ?_
  show ownFin _ _ _ _ _ (T13.setTop (mkF m 73 #[.val (.long q1), .second, .val (.int p1), .val (.long (((p1 &&& (7 : Int32)) - (4 : Int32)).toInt64)), .second, .val (.long ((2147483647 : Int64) + (((p1 &&& (7 : Int32)) - (4 : Int32)).toInt64))), .second, .val (.long ((-2147483647 : Int64) + (((p1 &&& (7 : Int32)) - (4 : Int32)).toInt64))), .second, .val (.int (1 : Int32)), .val (.int (1 : Int32)), .unset, .unset] []))
  refine ownVia (fun _ k => XS.iconst X13.here hx rfl (hb hby at_73) k) ?_
  show ownFin _ _ _ _ _ (T13.setTop (mkF m 74 #[.val (.long q1), .second, .val (.int p1), .val (.long (((p1 &&& (7 : Int32)) - (4 : Int32)).toInt64)), .second, .val (.long ((2147483647 : Int64) + (((p1 &&& (7 : Int32)) - (4 : Int32)).toInt64))), .second, .val (.long ((-2147483647 : Int64) + (((p1 &&& (7 : Int32)) - (4 : Int32)).toInt64))), .second, .val (.int (1 : Int32)), .val (.int (1 : Int32)), .unset, .unset] [(.int (1 : Int32))]))
  refine ownVia (fun _ k => XS.goto X13.here hx rfl (pc0 := 74) (pc' := 78) rfl (hb hby at_74) (by decide) (by decide) k) ?_
  show ownFin _ _ _ _ _ (T13.setTop (mkF m 78 #[.val (.long q1), .second, .val (.int p1), .val (.long (((p1 &&& (7 : Int32)) - (4 : Int32)).toInt64)), .second, .val (.long ((2147483647 : Int64) + (((p1 &&& (7 : Int32)) - (4 : Int32)).toInt64))), .second, .val (.long ((-2147483647 : Int64) + (((p1 &&& (7 : Int32)) - (4 : Int32)).toInt64))), .second, .val (.int (1 : Int32)), .val (.int (1 : Int32)), .unset, .unset] [(.int (1 : Int32))]))
  refine ownVia (fun _ k => XS.istore X13.here hx rfl (hb hby at_78) rfl (l' := #[.val (.long q1), .second, .val (.int p1), .val (.long (((p1 &&& (7 : Int32)) - (4 : Int32)).toInt64)), .second, .val (.long ((2147483647 : Int64) + (((p1 &&& (7 : Int32)) - (4 : Int32)).toInt64))), .second, .val (.long ((-2147483647 : Int64) + (((p1 &&& (7 : Int32)) - (4 : Int32)).toInt64))), .second, .val (.int (1 : Int32)), .val (.int (1 : Int32)), .val (.int (1 : Int32)), .unset]) rfl k) ?_
  show ownFin _ _ _ _ _ (T13.setTop (mkF m 80 #[.val (.long q1), .second, .val (.int p1), .val (.long (((p1 &&& (7 : Int32)) - (4 : Int32)).toInt64)), .second, .val (.long ((2147483647 : Int64) + (((p1 &&& (7 : Int32)) - (4 : Int32)).toInt64))), .second, .val (.long ((-2147483647 : Int64) + (((p1 &&& (7 : Int32)) - (4 : Int32)).toInt64))), .second, .val (.int (1 : Int32)), .val (.int (1 : Int32)), .val (.int (1 : Int32)), .unset] []))
  refine ownVia (fun _ k => XS.lloadN X13.here hx rfl (hb hby at_80) rfl k) ?_
  show ownFin _ _ _ _ _ (T13.setTop (mkF m 81 #[.val (.long q1), .second, .val (.int p1), .val (.long (((p1 &&& (7 : Int32)) - (4 : Int32)).toInt64)), .second, .val (.long ((2147483647 : Int64) + (((p1 &&& (7 : Int32)) - (4 : Int32)).toInt64))), .second, .val (.long ((-2147483647 : Int64) + (((p1 &&& (7 : Int32)) - (4 : Int32)).toInt64))), .second, .val (.int (1 : Int32)), .val (.int (1 : Int32)), .val (.int (1 : Int32)), .unset] [(.long q1)]))
  refine ownCallS X13 hx hZ hown (hw _ (List.mem_of_getElem? (i := 2) rfl)) (hw _ (List.mem_of_getElem? (i := 3) rfl)) (hw _ (List.mem_of_getElem? (i := 4) rfl)) (hw _ (List.mem_of_getElem? (i := 5) rfl)) (by decide) e13 (own_isla l Z a0 hw q1 h0 n0 Z0) (by rw [hml]; rfl) [(.long q1)] [] (lenOf own_pd0 rfl) rfl rfl 0 rfl (hb hby at_81) (by decide) (by decide) (by decide) (by decide) ?_
  intro v14 T14 L14 X14 hq14
  obtain ⟨rfl, N14q, eq14⟩ := hq14
  have N14 := Fr.app N13 N14q
  have e14 : T14.heap = h0 := eq14
  show ownFin _ _ _ _ _ (T14.setTop (mkF m 84 #[.val (.long q1), .second, .val (.int p1), .val (.long (((p1 &&& (7 : Int32)) - (4 : Int32)).toInt64)), .second, .val (.long ((2147483647 : Int64) + (((p1 &&& (7 : Int32)) - (4 : Int32)).toInt64))), .second, .val (.long ((-2147483647 : Int64) + (((p1 &&& (7 : Int32)) - (4 : Int32)).toInt64))), .second, .val (.int (1 : Int32)), .val (.int (1 : Int32)), .val (.int (1 : Int32)), .unset] [(.int (own_la q1))]))
  refine ownVia (fun _ k => XS.lloadN X14.here hx rfl (hb hby at_84) rfl k) ?_
  show ownFin _ _ _ _ _ (T14.setTop (mkF m 85 #[.val (.long q1), .second, .val (.int p1), .val (.long (((p1 &&& (7 : Int32)) - (4 : Int32)).toInt64)), .second, .val (.long ((2147483647 : Int64) + (((p1 &&& (7 : Int32)) - (4 : Int32)).toInt64))), .second, .val (.long ((-2147483647 : Int64) + (((p1 &&& (7 : Int32)) - (4 : Int32)).toInt64))), .second, .val (.int (1 : Int32)), .val (.int (1 : Int32)), .val (.int (1 : Int32)), .unset] [(.long q1), (.int (own_la q1))]))
  refine ownVia (fun _ k => XS.lneg X14.here hx rfl (hb hby at_85) rfl k) ?_
  show ownFin _ _ _ _ _ (T14.setTop (mkF m 86 #[.val (.long q1), .second, .val (.int p1), .val (.long (((p1 &&& (7 : Int32)) - (4 : Int32)).toInt64)), .second, .val (.long ((2147483647 : Int64) + (((p1 &&& (7 : Int32)) - (4 : Int32)).toInt64))), .second, .val (.long ((-2147483647 : Int64) + (((p1 &&& (7 : Int32)) - (4 : Int32)).toInt64))), .second, .val (.int (1 : Int32)), .val (.int (1 : Int32)), .val (.int (1 : Int32)), .unset] [(.long (-q1)), (.int (own_la q1))]))
  refine ownCallS X14 hx hZ hown (hw _ (List.mem_of_getElem? (i := 2) rfl)) (hw _ (List.mem_of_getElem? (i := 3) rfl)) (hw _ (List.mem_of_getElem? (i := 4) rfl)) (hw _ (List.mem_of_getElem? (i := 5) rfl)) (by decide) e14 (own_isla l Z a0 hw (-q1) h0 n0 Z0) (by rw [hml]; rfl) [(.long (-q1))] [(.int (own_la q1))] (lenOf own_pd0 rfl) rfl rfl 1 rfl (hb hby at_86) (by decide) (by decide) (by decide) (by decide) ?_
  intro v15 T15 L15 X15 hq15
  obtain ⟨rfl, N15q, eq15⟩ := hq15
  have N15 := Fr.app N14 N15q
  have e15 : T15.heap = h0 := eq15
  show ownFin _ _ _ _ _ (T15.setTop (mkF m 89 #[.val (.long q1), .second, .val (.int p1), .val (.long (((p1 &&& (7 : Int32)) - (4 : Int32)).toInt64)), .second, .val (.long ((2147483647 : Int64) + (((p1 &&& (7 : Int32)) - (4 : Int32)).toInt64))), .second, .val (.long ((-2147483647 : Int64) + (((p1 &&& (7 : Int32)) - (4 : Int32)).toInt64))), .second, .val (.int (1 : Int32)), .val (.int (1 : Int32)), .val (.int (1 : Int32)), .unset] [(.int (own_la (-q1))), (.int (own_la q1))]))
  refine ownVia (fun _ k => XS.icmpNo X15.here hx rfl (hb hby at_89) rfl (teq (own_neg q1)).2 k) ?_
  show ownFin _ _ _ _ _ (T15.setTop (mkF m 92 #[.val (.long q1), .second, .val (.int p1), .val (.long (((p1 &&& (7 : Int32)) - (4 : Int32)).toInt64)), .second, .val (.long ((2147483647 : Int64) + (((p1 &&& (7 : Int32)) - (4 : Int32)).toInt64))), .second, .val (.long ((-2147483647 : Int64) + (((p1 &&& (7 : Int32)) - (4 : Int32)).toInt64))), .second, .val (.int (1 : Int32)), .val (.int (1 : Int32)), .val (.int (1 : Int32)), .unset] []))
  refine ownVia (fun _ k => XS.iconst X15.here hx rfl (hb hby at_92) k) ?_
  show ownFin _ _ _ _ _ (T15.setTop (mkF m 93 #[.val (.long q1), .second, .val (.int p1), .val (.long (((p1 &&& (7 : Int32)) - (4 : Int32)).toInt64)), .second, .val (.long ((2147483647 : Int64) + (((p1 &&& (7 : Int32)) - (4 : Int32)).toInt64))), .second, .val (.long ((-2147483647 : Int64) + (((p1 &&& (7 : Int32)) - (4 : Int32)).toInt64))), .second, .val (.int (1 : Int32)), .val (.int (1 : Int32)), .val (.int (1 : Int32)), .unset] [(.int (1 : Int32))]))
  refine ownVia (fun _ k => XS.goto X15.here hx rfl (pc0 := 93) (pc' := 97) rfl (hb hby at_93) (by decide) (by decide) k) ?_
  show ownFin _ _ _ _ _ (T15.setTop (mkF m 97 #[.val (.long q1), .second, .val (.int p1), .val (.long (((p1 &&& (7 : Int32)) - (4 : Int32)).toInt64)), .second, .val (.long ((2147483647 : Int64) + (((p1 &&& (7 : Int32)) - (4 : Int32)).toInt64))), .second, .val (.long ((-2147483647 : Int64) + (((p1 &&& (7 : Int32)) - (4 : Int32)).toInt64))), .second, .val (.int (1 : Int32)), .val (.int (1 : Int32)), .val (.int (1 : Int32)), .unset] [(.int (1 : Int32))]))
  refine ownVia (fun _ k => XS.istore X15.here hx rfl (hb hby at_97) rfl (l' := #[.val (.long q1), .second, .val (.int p1), .val (.long (((p1 &&& (7 : Int32)) - (4 : Int32)).toInt64)), .second, .val (.long ((2147483647 : Int64) + (((p1 &&& (7 : Int32)) - (4 : Int32)).toInt64))), .second, .val (.long ((-2147483647 : Int64) + (((p1 &&& (7 : Int32)) - (4 : Int32)).toInt64))), .second, .val (.int (1 : Int32)), .val (.int (1 : Int32)), .val (.int (1 : Int32)), .val (.int (1 : Int32))]) rfl k) ?_
  show ownFin _ _ _ _ _ (T15.setTop (mkF m 99 #[.val (.long q1), .second, .val (.int p1), .val (.long (((p1 &&& (7 : Int32)) - (4 : Int32)).toInt64)), .second, .val (.long ((2147483647 : Int64) + (((p1 &&& (7 : Int32)) - (4 : Int32)).toInt64))), .second, .val (.long ((-2147483647 : Int64) + (((p1 &&& (7 : Int32)) - (4 : Int32)).toInt64))), .second, .val (.int (1 : Int32)), .val (.int (1 : Int32)), .val (.int (1 : Int32)), .val (.int (1 : Int32))] []))
  refine ownVia (fun _ k => XS.iload X15.here hx rfl (hb hby at_99) rfl k) ?_
  show ownFin _ _ _ _ _ (T15.setTop (mkF m 101 #[.val (.long q1), .second, .val (.int p1), .val (.long (((p1 &&& (7 : Int32)) - (4 : Int32)).toInt64)), .second, .val (.long ((2147483647 : Int64) + (((p1 &&& (7 : Int32)) - (4 : Int32)).toInt64))), .second, .val (.long ((-2147483647 : Int64) + (((p1 &&& (7 : Int32)) - (4 : Int32)).toInt64))), .second, .val (.int (1 : Int32)), .val (.int (1 : Int32)), .val (.int (1 : Int32)), .val (.int (1 : Int32))] [(.int (1 : Int32))]))
  refine ownVia (fun _ k => XS.ifNo X15.here hx rfl (hb hby at_101) rfl ((if0 _ _).trans (feq (by decide)).1) k) ?_
  show ownFin _ _ _ _ _ (T15.setTop (mkF m 104 #[.val (.long q1), .second, .val (.int p1), .val (.long (((p1 &&& (7 : Int32)) - (4 : Int32)).toInt64)), .second, .val (.long ((2147483647 : Int64) + (((p1 &&& (7 : Int32)) - (4 : Int32)).toInt64))), .second, .val (.long ((-2147483647 : Int64) + (((p1 &&& (7 : Int32)) - (4 : Int32)).toInt64))), .second, .val (.int (1 : Int32)), .val (.int (1 : Int32)), .val (.int (1 : Int32)), .val (.int (1 : Int32))] []))
  refine ownVia (fun _ k => XS.iload X15.here hx rfl (hb hby at_104) rfl k) ?_
  show ownFin _ _ _ _ _ (T15.setTop (mkF m 106 #[.val (.long q1), .second, .val (.int p1), .val (.long (((p1 &&& (7 : Int32)) - (4 : Int32)).toInt64)), .second, .val (.long ((2147483647 : Int64) + (((p1 &&& (7 : Int32)) - (4 : Int32)).toInt64))), .second, .val (.long ((-2147483647 : Int64) + (((p1 &&& (7 : Int32)) - (4 : Int32)).toInt64))), .second, .val (.int (1 : Int32)), .val (.int (1 : Int32)), .val (.int (1 : Int32)), .val (.int (1 : Int32))] [(.int (1 : Int32))]))
  refine ownVia (fun _ k => XS.ifNo X15.here hx rfl (hb hby at_106) rfl ((if0 _ _).trans (feq (by decide)).1) k) ?_
  show ownFin _ _ _ _ _ (T15.setTop (mkF m 109 #[.val (.long q1), .second, .val (.int p1), .val (.long (((p1 &&& (7 : Int32)) - (4 : Int32)).toInt64)), .second, .val (.long ((2147483647 : Int64) + (((p1 &&& (7 : Int32)) - (4 : Int32)).toInt64))), .second, .val (.long ((-2147483647 : Int64) + (((p1 &&& (7 : Int32)) - (4 : Int32)).toInt64))), .second, .val (.int (1 : Int32)), .val (.int (1 : Int32)), .val (.int (1 : Int32)), .val (.int (1 : Int32))] []))
  refine ownVia (fun _ k => XS.iload X15.here hx rfl (hb hby at_109) rfl k) ?_
  show ownFin _ _ _ _ _ (T15.setTop (mkF m 111 #[.val (.long q1), .second, .val (.int p1), .val (.long (((p1 &&& (7 : Int32)) - (4 : Int32)).toInt64)), .second, .val (.long ((2147483647 : Int64) + (((p1 &&& (7 : Int32)) - (4 : Int32)).toInt64))), .second, .val (.long ((-2147483647 : Int64) + (((p1 &&& (7 : Int32)) - (4 : Int32)).toInt64))), .second, .val (.int (1 : Int32)), .val (.int (1 : Int32)), .val (.int (1 : Int32)), .val (.int (1 : Int32))] [(.int (1 : Int32))]))
  refine ownVia (fun _ k => XS.ifNo X15.here hx rfl (hb hby at_111) rfl ((if0 _ _).trans (feq (by decide)).1) k) ?_
  show ownFin _ _ _ _ _ (T15.setTop (mkF m 114 #[.val (.long q1), .second, .val (.int p1), .val (.long (((p1 &&& (7 : Int32)) - (4 : Int32)).toInt64)), .second, .val (.long ((2147483647 : Int64) + (((p1 &&& (7 : Int32)) - (4 : Int32)).toInt64))), .second, .val (.long ((-2147483647 : Int64) + (((p1 &&& (7 : Int32)) - (4 : Int32)).toInt64))), .second, .val (.int (1 : Int32)), .val (.int (1 : Int32)), .val (.int (1 : Int32)), .val (.int (1 : Int32))] []))
  refine ownVia (fun _ k => XS.iload X15.here hx rfl (hb hby at_114) rfl k) ?_
  show ownFin _ _ _ _ _ (T15.setTop (mkF m 116 #[.val (.long q1), .second, .val (.int p1), .val (.long (((p1 &&& (7 : Int32)) - (4 : Int32)).toInt64)), .second, .val (.long ((2147483647 : Int64) + (((p1 &&& (7 : Int32)) - (4 : Int32)).toInt64))), .second, .val (.long ((-2147483647 : Int64) + (((p1 &&& (7 : Int32)) - (4 : Int32)).toInt64))), .second, .val (.int (1 : Int32)), .val (.int (1 : Int32)), .val (.int (1 : Int32)), .val (.int (1 : Int32))] [(.int (1 : Int32))]))
  refine ownVia (fun _ k => XS.ifNo X15.here hx rfl (hb hby at_116) rfl ((if0 _ _).trans (feq (by decide)).1) k) ?_
  show ownFin _ _ _ _ _ (T15.setTop (mkF m 119 #[.val (.long q1), .second, .val (.int p1), .val (.long (((p1 &&& (7 : Int32)) - (4 : Int32)).toInt64)), .second, .val (.long ((2147483647 : Int64) + (((p1 &&& (7 : Int32)) - (4 : Int32)).toInt64))), .second, .val (.long ((-2147483647 : Int64) + (((p1 &&& (7 : Int32)) - (4 : Int32)).toInt64))), .second, .val (.int (1 : Int32)), .val (.int (1 : Int32)), .val (.int (1 : Int32)), .val (.int (1 : Int32))] []))
  refine ownVia (fun _ k => XS.iconst X15.here hx rfl (hb hby at_119) k) ?_
  show ownFin _ _ _ _ _ (T15.setTop (mkF m 120 #[.val (.long q1), .second, .val (.int p1), .val (.long (((p1 &&& (7 : Int32)) - (4 : Int32)).toInt64)), .second, .val (.long ((2147483647 : Int64) + (((p1 &&& (7 : Int32)) - (4 : Int32)).toInt64))), .second, .val (.long ((-2147483647 : Int64) + (((p1 &&& (7 : Int32)) - (4 : Int32)).toInt64))), .second, .val (.int (1 : Int32)), .val (.int (1 : Int32)), .val (.int (1 : Int32)), .val (.int (1 : Int32))] [(.int (1 : Int32))]))
  refine ownVia (fun _ k => XS.goto X15.here hx rfl (pc0 := 120) (pc' := 124) rfl (hb hby at_120) (by decide) (by decide) k) ?_
  show ownFin _ _ _ _ _ (T15.setTop (mkF m 124 #[.val (.long q1), .second, .val (.int p1), .val (.long (((p1 &&& (7 : Int32)) - (4 : Int32)).toInt64)), .second, .val (.long ((2147483647 : Int64) + (((p1 &&& (7 : Int32)) - (4 : Int32)).toInt64))), .second, .val (.long ((-2147483647 : Int64) + (((p1 &&& (7 : Int32)) - (4 : Int32)).toInt64))), .second, .val (.int (1 : Int32)), .val (.int (1 : Int32)), .val (.int (1 : Int32)), .val (.int (1 : Int32))] [(.int (1 : Int32))]))
  refine ownRetZ X15 hx hlk hret (hb hby at_124) (by decide) (by decide) (Or.inr rfl) ?_
  show (Q_own_law Z q1 p1 h0 n0 ) (some (.int (1 : Int32))) T15.heap _
  rw [e15]
  exact ⟨rfl, N15⟩
set_option maxRecDepth 65536 in
set_option maxHeartbeats 40000000 in
theorem own_comes {Post : Tables → Env → Array Value → State → Outcome → State → Prop} (hpost : ∀ tb e args s v u, (limb_1_1.after args s (.returned v) u = true ∧ limb_1_2.after args s (.returned v) u = true ∧ True) → FrameEnd s (.returned v) u (Jvm.fieldLocs frame_1_writes args s ++ Jvm.arrayLocs frame_1_arrays args s ++ Jvm.staticLocs frame_1_statics s) 0 0 → Post tb e args s (.returned v) u) :
    ArmFor flags0 classFile x code maxLocals ret World_1 tables_1 room_1 Calls_1 rest_1 Pre_1 Post := by
  intro l hfl _ _ p e ha hc hk s m args below hf hA hF happ hP
  obtain ⟨hcalls, hrest, hpre⟩ := hP
  obtain ⟨-, -, -, hnamed, -, -, -, hat⟩ := (Spec.applies_iff hf).mp happ
  obtain ⟨hg, hn⟩ := and_e (Cond.before_iff.mp (show (Jvm.Cond.and given_1 narrow_1).before args s = true from hpre))
  obtain ⟨hcount, hg0⟩ := and_e hg
  obtain ⟨w0, w1, rfl⟩ : ∃ w0 w1 : Value, args = #[w0, w1] := by
    have hs : args.size = 2 := by simpa [Cond.value, given_1] using hcount
    obtain ⟨L⟩ := args
    match L, hs with
    | [w0, w1], _ => exact ⟨w0, w1, rfl⟩
  have hw := fun d (hd : d ∈ tables_1) => atoms_spec (ws := Jvm.Cond.code x code maxLocals ret :: tables_1) hat d (List.mem_cons_of_mem _ hd)
  have hfit : Fit s := fun {y c} hc i hi => by
    obtain ⟨ha, rfl⟩ := Array.getElem?_eq_some_iff.mp hc
    have q := List.all_eq_true.mp ((Array.all_eq_true_iff_forall_mem.mp hF) _ (Array.getElem_mem ha)) i (List.mem_range.mpr hi)
    simpa [Array.getElem?_eq_getElem hi] using q
  obtain ⟨hq0, hg1⟩ := and_e hg0
  obtain ⟨i0, ei0⟩ := isL_v hq0
  obtain rfl : w0 = (.long i0) := Option.some.inj ei0
  obtain ⟨i1, ei1⟩ := is_v hg1
  obtain rfl : w1 = (.int i1) := Option.some.inj ei1
  obtain ⟨n, o, h1, h2, h3, _, L, rfl, ⟨rfl, N⟩, hq⟩ := own_law l s _ hw tables_1 i0 i1 s.heap s.heap.size  (Nat.le_refl _)  p e ha hc hk s m _ below hf ((Spec.applies_iff_loose hf).mp happ).1 ⟨rfl, State.Warmed39.refl s, rfl⟩ trivial
  refine ⟨n, _, h1, h2, h3, hpost _ _ _ _ _ _ ⟨Cond.after_iff.mpr rfl, Cond.after_iff.mpr (eq_i res_at (Term.int_eval (1)) rfl), trivial⟩ ⟨hq.1, hq.2.1, (hq.2.2.sift fun y hy => Or.inr (N y hy)).mono (by decide) (by decide)⟩⟩
theorem main_1_1 : Claimed_1_1 := own_comes fun _ _ _ _ _ _ h hF => ⟨h.1, hF⟩
theorem main_1_2 : Claimed_1_2 := own_comes fun _ _ _ _ _ _ h hF => ⟨h.2.1, hF⟩
end Jvm.Pilot.@@N@@
namespace Jvm.Pilot.@@N@@
open Jvm Jvm.ClassFile Sem Op Lib Jvm.Free Jvm.Stand Jvm.Pilot.@@N@@.Jvm.D
/-! MADE BY PROGRAM (witnessworld.py) out of the Statement's table words and the real class files: 8 classes; the members and pool entries that the words name. The judged class is class 1, her method 2. -/
namespace start1
open Jvm.ClassFile
def u (s : String) : CpInfo := .utf8 (stringToUtf16 s)
/-- a pool by its gaps: so many unusable entries, then the entry; so many at the end -/
def gap : Nat → List CpInfo → List CpInfo
  | 0, r => r
  | n + 1, r => .unusable :: gap n r
def poolList (es : List (Nat × CpInfo)) (last : Nat) : List CpInfo := es.foldr (fun e r => gap e.1 (e.2 :: r)) (gap last [])
def pool (es : List (Nat × CpInfo)) (last : Nat) : Array CpInfo := ⟨poolList es last⟩
def fileOf (pool : Array CpInfo) (this : Nat) (attrs : Array Attribute := #[]) (ms : Array MethodInfo := #[]) (fl : Nat := 33) (sup : Nat := 0) (ifs : Array Nat := #[]) (fds : Array FieldInfo := #[]) : ClassFile where
  minorVersion := 0
  majorVersion := 65
  constantPool := pool
  accessFlags := fl
  thisClass := this
  superClass := sup
  interfaces := ifs
  fields := fds
  methods := ms
  attributes := attrs
def plain (name : String) (sup : Option ClassId) : Class where
  name := name
  kind := .ordinary
  loader := none
  accessFlags := 33
  super := sup
  interfaces := #[]
  cf := none
  fields := #[]
  methods := #[]
  instanceTypes := #[]
  staticTypes := #[]
  resolved := #[]
  callSites := []
  init := .initialized
  statics := none
  mirror := none

def pool0 : Array CpInfo := pool [(5, u "<init>"), (0, u "()V"), (1, .class_ 10), (1, u "java/lang/Object")] 113

def k0m0 : Method := { name := "<init>", desc := "()V", sig := { parameters := [], returnType := none }, accessFlags := 1, code := none }
/-- java/lang/Object -/
def k0 : Class := { plain "java/lang/Object" none with
  accessFlags := 33
  interfaces := #[]
  cf := some (fileOf pool0 8 #[] #[{ accessFlags := 1, nameIndex := 5, descriptorIndex := 6, attributes := #[] }] 33 0 #[] #[])
  fields := #[]
  methods := #[k0m0]
  instanceTypes := #[]
  staticTypes := #[]
  resolved := Array.replicate 124 none
  statics := none }

def pool1 : Array CpInfo := pool [(2, .class_ 4), (1, u "java/lang/Object"), (0, u "<init>"), (0, u "()V"), (2, .integer 2147483648), (0, .long 2147483647), (1, .long 18446744071562067969), (1, .methodref 15 16), (0, .class_ 17), (0, .nameAndType 18 19), (0, u "com/example/tillbridge/tillbridge/channel/Bill"), (0, u "isLineAmount"), (0, u "(J)Z"), (0, .methodref 21 22), (0, .class_ 23), (0, .nameAndType 24 19), (0, u "com/example/tillbridge/tillbridge/channel/BillIsLineAmountPinLaw"), (0, u "ref"), (3, u "law"), (0, u "(JI)Z")] 2

def k1m0 : Method := { name := "<init>", desc := "()V", sig := { parameters := [], returnType := none }, accessFlags := 1, code := none }
def k1c1 : Code := { maxStack := 4, maxLocals := 3, code := method_2_code, exceptionTable := #[], attributes := #[] }
def k1m1 : Method := { name := "ref", desc := "(J)Z", sig := { parameters := [.long], returnType := some .boolean }, accessFlags := 10, code := some k1c1 }
def k1c2 : Code := { maxStack := 4, maxLocals := 13, code := code, exceptionTable := #[], attributes := #[] }
def k1m2 : Method := { name := "law", desc := "(JI)Z", sig := { parameters := [.long, .int], returnType := some .boolean }, accessFlags := 9, code := some k1c2 }
/-- com/example/tillbridge/tillbridge/channel/BillIsLineAmountPinLaw -/
def k1 : Class := { plain "com/example/tillbridge/tillbridge/channel/BillIsLineAmountPinLaw" (some 0) with
  accessFlags := 49
  interfaces := #[]
  cf := some (fileOf pool1 21 #[] #[{ accessFlags := 1, nameIndex := 5, descriptorIndex := 6, attributes := #[] }, { accessFlags := 10, nameIndex := 24, descriptorIndex := 19, attributes := #[] }, { accessFlags := 9, nameIndex := 28, descriptorIndex := 29, attributes := #[] }] 49 2 #[] #[])
  fields := #[]
  methods := #[k1m0, k1m1, k1m2]
  instanceTypes := #[]
  staticTypes := #[]
  resolved := Array.replicate 32 none
  statics := none }

def pool2 : Array CpInfo := pool [(2, .class_ 4), (1, u "java/lang/Object"), (0, u "<init>"), (0, u "()V"), (0, .class_ 8), (0, u "java/lang/Record")] 13

def k2m0 : Method := { name := "<init>", desc := "()V", sig := { parameters := [], returnType := none }, accessFlags := 4, code := none }
/-- java/lang/Record -/
def k2 : Class := { plain "java/lang/Record" (some 0) with
  accessFlags := 1057
  interfaces := #[]
  cf := some (fileOf pool2 7 #[] #[{ accessFlags := 4, nameIndex := 5, descriptorIndex := 6, attributes := #[] }] 1057 2 #[] #[])
  fields := #[]
  methods := #[k2m0]
  instanceTypes := #[]
  staticTypes := #[]
  resolved := Array.replicate 22 none
  statics := none }

def pool3 : Array CpInfo := pool [(2, .class_ 4), (1, u "java/lang/Record"), (9, .class_ 16), (1, u "com/example/tillbridge/tillbridge/channel/Bill"), (0, u "lines"), (0, u "Ljava/util/List;"), (2, u "totals"), (0, u "Lcom/example/tillbridge/tillbridge/channel/Bill$Totals;"), (2, .long 18446744071562067969), (1, .long 2147483647), (15, .class_ 44), (0, u "com/example/tillbridge/tillbridge/channel/Bill$Line"), (18, .class_ 65), (1, u "com/example/tillbridge/tillbridge/channel/Bill$Standing"), (8, .class_ 75), (0, u "com/example/tillbridge/tillbridge/channel/Bill$Totals"), (26, u "isLineAmount"), (0, u "(J)Z")] 32

def k3c0 : Code := { maxStack := 4, maxLocals := 2, code := prog_6_method_2_code, exceptionTable := #[], attributes := #[] }
def k3m0 : Method := { name := "isLineAmount", desc := "(J)Z", sig := { parameters := [.long], returnType := some .boolean }, accessFlags := 9, code := some k3c0 }
/-- com/example/tillbridge/tillbridge/channel/Bill -/
def k3 : Class := { plain "com/example/tillbridge/tillbridge/channel/Bill" (some 2) with
  accessFlags := 49
  interfaces := #[]
  cf := some (fileOf pool3 14 #[.nestMembers #[74, 43, 63]] #[{ accessFlags := 9, nameIndex := 102, descriptorIndex := 103, attributes := #[] }] 49 2 #[] #[{ accessFlags := 18, nameIndex := 17, descriptorIndex := 18, attributes := #[] }, { accessFlags := 18, nameIndex := 21, descriptorIndex := 22, attributes := #[] }])
  fields := #[{ name := "lines", type := (.object "java/util/List"), accessFlags := 18, slot := 0, constantValue := 0 }, { name := "totals", type := (.object "com/example/tillbridge/tillbridge/channel/Bill$Totals"), accessFlags := 18, slot := 1, constantValue := 0 }]
  methods := #[k3m0]
  instanceTypes := #[(.object "java/util/List"), (.object "com/example/tillbridge/tillbridge/channel/Bill$Totals")]
  staticTypes := #[]
  resolved := Array.replicate 136 none
  statics := none }

def pool4 : Array CpInfo := pool [(1, u "java/lang/Cloneable"), (0, .class_ 1), (0, u "java/lang/Object"), (0, .class_ 3)] 3

/-- java/lang/Cloneable -/
def k4 : Class := { plain "java/lang/Cloneable" (some 0) with
  accessFlags := 1537
  interfaces := #[]
  cf := some (fileOf pool4 2 #[] #[] 1537 4 #[] #[])
  fields := #[]
  methods := #[]
  instanceTypes := #[]
  staticTypes := #[]
  resolved := Array.replicate 8 none
  statics := none }

def pool5 : Array CpInfo := pool [(1, u "java/io/Serializable"), (0, .class_ 1), (0, u "java/lang/Object"), (0, .class_ 3)] 3

/-- java/io/Serializable -/
def k5 : Class := { plain "java/io/Serializable" (some 0) with
  accessFlags := 1537
  interfaces := #[]
  cf := some (fileOf pool5 2 #[] #[] 1537 4 #[] #[])
  fields := #[]
  methods := #[]
  instanceTypes := #[]
  staticTypes := #[]
  resolved := Array.replicate 8 none
  statics := none }

/-- the primitive byte -/
def k6 : Class := { plain "byte" none with kind := .primitive 'B', accessFlags := 0x411 }
/-- [B -/
def k7 : Class := { plain "[B" (some 0) with kind := .array 6 .byte, interfaces := #[4, 5], accessFlags := 1041 }

def heap : Heap := #[]
def classes : Array Class := #[k0, k1, k2, k3, k4, k5, k6, k7]
def interned : List (Array UInt16 × Addr) := []
def slotsUsed : Nat := 0
def theMethod : MethodId := ⟨1, 2⟩
def args0 : Array Value := #[.long 5, .int 3]
def aboutOver (below : List Frame) : State where
  vm := { classes := classes, interned := interned.toArray }
  heap := heap
  slotsUsed := slotsUsed
  threads := #[{ frames := .invoking theMethod args0 :: below }]
def below0 : List Frame := [.native { method := ⟨0, 0⟩, args := #[] }]
def about1 : State := aboutOver below0
def p0 : Program := .bare "" "" ""
def e0 : Env := launch0.env 0 0 0
theorem w_frames : about1.frames = Frame.invoking theMethod args0 :: below0 := rfl
set_option maxRecDepth 65536 in
theorem w_args : argsFit about1.vm theMethod args0 = true := by decide +kernel
set_option maxRecDepth 65536 in
theorem w_heap : heapFits about1 = true := by decide +kernel
set_option maxRecDepth 65536 in
theorem w_runnable : about1.curStatus? = some .runnable := by decide +kernel
set_option maxRecDepth 65536 in
theorem w_alone : about1.alone = true := by decide +kernel
set_option maxRecDepth 65536 in
theorem w_named : about1.methodNamed? x = some theMethod := by decide +kernel
set_option maxRecDepth 65536 in
theorem w_hears : about1.hears theMethod below0 = true := by decide +kernel
set_option maxRecDepth 65536 in
theorem w_ripe : about1.ripe theMethod args0 below0 = true := by decide +kernel
theorem w_running : about1.status = .running := rfl
set_option maxRecDepth 65536 in
theorem w_room : about1.hasRoom e0.platform room_1 = true :=
  launch0.hasRoom_least _ room_1 (by decide +kernel) (by decide +kernel) (by decide +kernel) (by decide +kernel) (by decide +kernel) (by decide +kernel)
theorem allAtoms_all (ts : List Jvm.Cond) (a : Array Jvm.Value) (st : Jvm.State) : (allAtoms ts).before a st = ts.all (fun c => c.before a st) := by
  induction ts with
  | nil => rfl
  | cons c t ih =>
    show (Jvm.Cond.and c (allAtoms t)).before a st = _
    rw [Jvm.Cond.before_and, ih, List.all_cons]
def words1 : List Jvm.Cond := Jvm.Cond.code x code maxLocals ret :: tables_1
/-- a 'code' word, met by the world's own term for the bytes: nothing is compared byte by byte -/
theorem code_word {y : MethodName} {bytes : ByteArray} {mx : Nat} {rt : Option FieldType} {a : Array Value} {s : State} {m : MethodId} {meth : Method} {c : Code} (h1 : s.methodNamed? y = some m) (h2 : s.vm.method? m = some meth) (h3 : meth.code = some c) (h4 : c.code = bytes)
    (h5 : (c.maxLocals == mx && c.exceptionTable.isEmpty && decide (c.maxStack ≤ mostOperands) && decide (meth.sig.returnType = rt) && !meth.locks && decide (parseMethodDescriptor y.desc = some meth.sig)) = true) : (Jvm.Cond.code y bytes mx rt).before a s = true := by
  simp only [Bool.and_eq_true, beq_iff_eq, Bool.not_eq_true', decide_eq_true_eq] at h5
  obtain ⟨⟨⟨⟨⟨g1, g2⟩, g3⟩, g4⟩, g5⟩, g6⟩ := h5
  simp [Cond.before, Cond.holds, Cond.value, h1, h2, h3, h4, g1, g2, g3, g4, g5, g6]
def isCode : Jvm.Cond → Bool
  | .code _ _ _ _ => true
  | _ => false
theorem all_split {L : List Jvm.Cond} {P : Jvm.Cond → Bool} (h1 : L.all (fun c => isCode c || P c) = true) (h2 : ∀ c ∈ L.filter isCode, P c = true) : L.all P = true := by
  refine List.all_eq_true.mpr fun c hc => ?_
  have h := List.all_eq_true.mp h1 c hc
  rcases Bool.eq_false_or_eq_true (isCode c) with hi | hi
  · exact h2 c (List.mem_filter.mpr ⟨hc, hi⟩)
  · simpa [hi] using h
set_option maxRecDepth 65536 in
theorem w_c0 : (Jvm.Cond.code x code maxLocals ret).before args0 about1 = true := code_word (m := ⟨1, 2⟩) (meth := k1m2) (c := k1c2) (by decide +kernel) rfl rfl rfl (by decide +kernel)
set_option maxRecDepth 65536 in
theorem w_c1 : (Jvm.Cond.code ({ cls := "com/example/tillbridge/tillbridge/channel/Bill", name := "isLineAmount", desc := "(J)Z" } : Jvm.MethodName) prog_6_method_2_code (2 : Nat) (Option.some Jvm.ClassFile.FieldType.boolean)).before args0 about1 = true := code_word (m := ⟨3, 0⟩) (meth := k3m0) (c := k3c0) (by decide +kernel) rfl rfl rfl (by decide +kernel)
set_option maxRecDepth 65536 in
theorem w_c2 : (Jvm.Cond.code ({ cls := "com/example/tillbridge/tillbridge/channel/BillIsLineAmountPinLaw", name := "ref", desc := "(J)Z" } : Jvm.MethodName) method_2_code (3 : Nat) (Option.some Jvm.ClassFile.FieldType.boolean)).before args0 about1 = true := code_word (m := ⟨1, 1⟩) (meth := k1m1) (c := k1c1) (by decide +kernel) rfl rfl rfl (by decide +kernel)
def codes1 : List Jvm.Cond := [Jvm.Cond.code x code maxLocals ret, Jvm.Cond.code ({ cls := "com/example/tillbridge/tillbridge/channel/Bill", name := "isLineAmount", desc := "(J)Z" } : Jvm.MethodName) prog_6_method_2_code (2 : Nat) (Option.some Jvm.ClassFile.FieldType.boolean), Jvm.Cond.code ({ cls := "com/example/tillbridge/tillbridge/channel/BillIsLineAmountPinLaw", name := "ref", desc := "(J)Z" } : Jvm.MethodName) method_2_code (3 : Nat) (Option.some Jvm.ClassFile.FieldType.boolean)]
set_option maxRecDepth 65536 in
theorem codes_eq : words1.filter isCode = codes1 := rfl
theorem w_codes : ∀ c ∈ words1.filter isCode, c.before args0 about1 = true := by
  rw [codes_eq]
  intro c hc
  simp only [codes1, List.mem_cons, List.not_mem_nil, or_false] at hc
  rcases hc with rfl | rfl | rfl
  · exact w_c0
  · exact w_c1
  · exact w_c2
set_option maxRecDepth 65536 in
theorem w_t1 : words1.all (fun c => isCode c || c.before args0 about1) = true := by decide +kernel
theorem w_tables : (allAtoms (Jvm.Cond.code x code maxLocals ret :: tables_1)).before args0 about1 = true := by
  rw [allAtoms_all]
  show words1.all (fun c => c.before args0 about1) = true
  refine all_split ?_ w_codes
  rw [w_t1]
set_option maxRecDepth 65536 in
theorem w_case : (Jvm.Cond.and given_1 narrow_1).before args0 about1 = true := by decide +kernel
theorem w_applies : (headSpec (Jvm.Cond.code x code maxLocals ret :: tables_1) room_1).applies x e0.platform about1 = true :=
  (Spec.applies_iff w_frames).mpr ⟨w_running, w_runnable, w_alone, w_named, w_hears, w_ripe, w_room, w_tables⟩
theorem atStart : AtStart classFile x code maxLocals ret World_1 tables_1 room_1 Calls_1 rest_1 Pre_1 launch0 p0 e0 about1 theMethod args0 below0 :=
  ⟨lists_1, trivial, launch0.admits_env _ _ _, launch0.least_env, fairChoices_fair.cas, fairChoices_fair.clock, w_frames, w_args, w_heap, w_applies, trivial, trivial, w_case⟩
end start1
theorem witness_1 : WitnessClaimed_1 := ⟨start1.p0, start1.e0, start1.about1, start1.theMethod, start1.args0, start1.below0, start1.atStart⟩
end Jvm.Pilot.@@N@@
