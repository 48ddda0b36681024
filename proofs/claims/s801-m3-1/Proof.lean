import JvmDerived
import JvmDerived.Pilot.@@N@@Statement
import JvmDerived.Pilot.@@N@@Code
set_option linter.unusedVariables false
set_option linter.unusedSimpArgs false
namespace Jvm.Pilot.@@N@@
open Jvm Jvm.ClassFile Sem Op Lib Jvm.Free Jvm.Stand Jvm.LawKit Jvm.RoadKit Bundle Jvm.Pilot.@@N@@.Jvm.D
section Own
variable {p : Program} {l : Launch} {e : Env} {R : Room} {s : State} {m : MethodId} {args : Array Value} {below : List Frame} {meth : Method} {c : Code} {T : State} {locs : List Loc} {cells slots : Nat} {Z : State} {a0 : Array Value} {h : Heap} {Q : Option Value → Heap → List Loc → Prop} {C S : Nat} {u u' : State} {F : Outcome → State → List Loc → Prop}
/-- from u the invocation comes to its end, and Q holds of what it returns, of the heap and of the places written -/
def ownFin (p : Program) (e : Env) (below : List Frame) (F : Outcome → State → List Loc → Prop) (Q : Option Value → Heap → List Loc → Prop) (u : State) : Prop :=
  ∃ t o, Steps p.tables e below u t ∧ t.status = .running ∧ Ended t below o ∧ ∃ v L, o = .returned v ∧ Q v t.heap L ∧ F o t L
/-- how it ends: at most C new cells of S slots, the tables warmer, nothing old written but at the places L -/
def ownFE (s : State) (C S : Nat) : Outcome → State → List Loc → Prop := fun o t L => FrameEnd s o t L C S
theorem ownVia (f : ∀ t, Steps p.tables e below u' t → Steps p.tables e below u t) (k : ownFin p e below F Q u') : ownFin p e below F Q u := by
  obtain ⟨t, o, h1, r⟩ := k
  exact ⟨t, o, f t h1, r⟩
theorem ownRet (X : Stand p l e R s m args below meth c T locs cells slots) (hlk : meth.locks = false) {v : Option Value} (hv : meth.sig.returnType = none → v = none)
    (f : ∀ fs, (∀ (f : JFrame) (acts : List Action), f.method = m → f.locked = none → f.entered = [] → (doReturn e (T.setTop f) acts v).1 = T.setFrames fs) → Steps p.tables e below u (T.setFrames fs))
    (hC : cells ≤ C) (hS : slots ≤ S) (hQ : Q v T.heap locs) : ownFin p e below (ownFE s C S) Q u := by
  obtain ⟨fs, hr, hrun, hended, hW, hsame⟩ := X.leave (v := v) hv hlk
  exact ⟨_, _, f fs hr, hrun, hended, v, _, rfl, hQ, ⟨_, rfl⟩, hW, hsame.mono hC hS⟩
theorem ownRetI (X : Stand p l e R s m args below meth c T locs cells slots) (hx : p.tables.exec = Jvm.exec) (hlk : meth.locks = false) (hret : meth.sig.returnType = some .int) {pc : Nat} {Ls : Array Slot} {z : Int32} {rest : List Value} (hd : decode c.code pc = .ok (.ireturn, 1)) (hC : cells ≤ C) (hS : slots ≤ S) (hQ : Q (some (.int z)) T.heap locs) : ownFin p e below (ownFE s C S) Q (T.setTop (mkF m pc Ls (.int z :: rest))) :=
  ownRet X hlk (v := some (.int z)) (fun q => by rw [hret] at q; cases q) (fun fs hr => retOut X hx hret rfl (Or.inl ⟨rfl, Or.inl rfl, z, rfl⟩) hd hr) hC hS hQ
theorem ownRetZ (X : Stand p l e R s m args below meth c T locs cells slots) (hx : p.tables.exec = Jvm.exec) (hlk : meth.locks = false) (hret : meth.sig.returnType = some .boolean) {pc : Nat} {Ls : Array Slot} {z : Int32} {rest : List Value} (hd : decode c.code pc = .ok (.ireturn, 1)) (hC : cells ≤ C) (hS : slots ≤ S) (hz : z = 0 ∨ z = 1) (hQ : Q (some (.int z)) T.heap locs) : ownFin p e below (ownFE s C S) Q (T.setTop (mkF m pc Ls (.int z :: rest))) :=
  ownRet X hlk (v := some (.int z)) (fun q => by rw [hret] at q; cases q) (fun fs hr => retOut X hx hret (by rcases hz with rfl | rfl <;> rfl) (Or.inl ⟨rfl, Or.inr (Or.inl rfl), z, rfl⟩) hd hr) hC hS hQ
theorem ownRetJ (X : Stand p l e R s m args below meth c T locs cells slots) (hx : p.tables.exec = Jvm.exec) (hlk : meth.locks = false) (hret : meth.sig.returnType = some .long) {pc : Nat} {Ls : Array Slot} {z : Int64} {rest : List Value} (hd : decode c.code pc = .ok (.lreturn, 1)) (hC : cells ≤ C) (hS : slots ≤ S) (hQ : Q (some (.long z)) T.heap locs) : ownFin p e below (ownFE s C S) Q (T.setTop (mkF m pc Ls (.long z :: rest))) :=
  ownRet X hlk (v := some (.long z)) (fun q => by rw [hret] at q; cases q) (fun fs hr => retOut X hx hret rfl (Or.inr (Or.inl ⟨rfl, rfl, z, rfl⟩)) hd hr) hC hS hQ
theorem ownRetA (X : Stand p l e R s m args below meth c T locs cells slots) (hx : p.tables.exec = Jvm.exec) (hlk : meth.locks = false) {ty : FieldType} (hret : meth.sig.returnType = some ty) (hty : ty.isReference = true) {pc : Nat} {Ls : Array Slot} {a : Addr} {rest : List Value} (hd : decode c.code pc = .ok (.areturn, 1)) (hC : cells ≤ C) (hS : slots ≤ S) (hQ : Q (some (.ref a)) T.heap locs) : ownFin p e below (ownFE s C S) Q (T.setTop (mkF m pc Ls (.ref a :: rest))) :=
  ownRet X hlk (v := some (.ref a)) (fun q => by rw [hret] at q; cases q) (fun fs hr => retOut X hx hret (by cases ty <;> first | rfl | cases hty) (Or.inr (Or.inr (Or.inr (Or.inr ⟨rfl, hty, rfl⟩)))) hd hr) hC hS hQ
theorem ownRetV (X : Stand p l e R s m args below meth c T locs cells slots) (hx : p.tables.exec = Jvm.exec) (hlk : meth.locks = false) (hret : meth.sig.returnType = none) {pc : Nat} {Ls : Array Slot} (hd : decode c.code pc = .ok (.return_, 1)) (hC : cells ≤ C) (hS : slots ≤ S) (hQ : Q none T.heap locs) : ownFin p e below (ownFE s C S) Q (T.setTop (mkF m pc Ls [])) :=
  ownRet X hlk (v := none) (fun _ => rfl) (fun fs hr => X.returnOut hx hret hd hr) hC hS hQ
/-- the contract of a method at given arguments and a given heap -/
abbrev ownMet (l : Launch) (Z : State) (y : MethodName) (bytes : ByteArray) (maxL : Nat) (ret : Option FieldType) (ws : List Jvm.Cond) (rm : Room) (as' : Array Value) (h0 : Heap) (Q : Option Value → Heap → List Loc → Prop) : Prop :=
  MetFree l y (head1 (Jvm.Cond.code y bytes maxL ret :: ws) rm) (fun a U => a = as' ∧ Z.Warmed39 U.vm ∧ U.heap = h0) (fun _ _ _ _ _ => True) (fun _ U o U' => ∃ v L, o = .returned v ∧ Q v U'.heap L ∧ FrameEnd U o U' L rm.cells rm.slots)
theorem ownBody {y : MethodName} {bytes : ByteArray} {maxL : Nat} {ret : Option FieldType} {ws : List Jvm.Cond} {rm : Room} {as' : Array Value} {h0 : Heap} (hpl : plainFor y = true)
    (H : ∀ (p : Program) (e : Env) (s : State) (m : MethodId) (below : List Frame) (meth : Method) (c : Code) (T : State), p.tables.exec = Jvm.exec → c.code = bytes → c.maxLocals = maxL → meth.sig.returnType = ret → meth.locks = false → Z.Warmed39 s.vm → s.vm.findClass y.cls = some m.cls → meth.name = y.name →
      Stand p l e rm s m as' below meth c T [] 0 0 → T.heap = h0 → ownFin p e below (ownFE s rm.cells rm.slots) Q (T.setTop (entryFrame m as' maxL))) : ownMet l Z y bytes maxL ret ws rm as' h0 Q := by
  refine MetFree.of_bodySF hpl hisR ?_
  intro p e s m args below meth c s₁ Bd hml0 hP hK
  obtain ⟨rfl, hZ, hh⟩ := hP
  exact H p e s m below meth c s₁ Bd.exec Bd.bytes hml0 Bd.returns Bd.notSynchronized hZ (findClass_of_methodNamed Bd.named) (name_of_methodNamed Bd.named Bd.method).1 (Stand.of_body Bd) (by rw [← hh, Bd.state]; rfl)
theorem ownCallS {own : String} {index : Nat} {y : MethodName} {bytes : ByteArray} {maxL : Nat} {ret : Option FieldType} {rm : Room} {as' : Array Value} {Q' : Option Value → Heap → List Loc → Prop}
    (X : Stand p l e R s m args below meth c T locs cells slots) (hx : p.tables.exec = Jvm.exec) (hZ : Z.Warmed39 s.vm) (hown : s.vm.findClass own = some m.cls)
    (w1 : (Jvm.Cond.methodLink own index y).before a0 Z = true) (w2 : (Jvm.Cond.static y).before a0 Z = true) (w3 : (Jvm.Cond.initialized y.cls).before a0 Z = true) (w4 : (Jvm.Cond.code y bytes maxL ret).before a0 Z = true)
    (hy : y.cls ≠ "java/lang/invoke/MethodHandle" ∧ y.cls ≠ "java/lang/invoke/VarHandle") (eT : T.heap = h) (hM : ownMet l Z y bytes maxL ret [] rm as' h Q')
    {pc : Nat} {Ls : Array Slot} {st : List Value} (hsz : Ls.size = c.maxLocals) (argsL rest : List Value) (hlen : ∀ sig, parseMethodDescriptor y.desc = some sig → argsL.length = sig.parameters.length)
    (hst : st = argsL.reverse ++ rest) (has : argsL.toArray = as') (W : Nat) (hW : (rest.map fun v => v.category).sum = W) (hd : decode c.code pc = .ok (.invokestatic index, 3))
    (hfr : rm.frames + 1 ≤ R.frames) (hlo : W + (maxL + 11) + rm.locals ≤ R.locals) (hce : cells + rm.cells ≤ R.cells) (hsl : slots + rm.slots ≤ R.slots)
    (K : ∀ v T' L', Stand p l e R s m args below meth c T' (locs ++ L') (cells + rm.cells) (slots + rm.slots) → Q' v T'.heap L' → ownFin p e below F Q (T'.setTop (mkF m (pc + 3) Ls (v.toList ++ rest)))) :
    ownFin p e below F Q (T.setTop (mkF m pc Ls st)) := by
  obtain ⟨v, _, ⟨T2, L2, k2, n2⟩, -, X2, ⟨Lc2, hQ2, l2, y2, z2⟩, st2⟩ := Jvm.LawKit.callS X hx (y := y) hown (mvT hZ w1) (mvT hZ w2) (mvT hZ w3) (mvT hZ w4) hy (backOf (W := W) hM hZ w4 w3 hfr hlo) (g := mkF m pc Ls st) rfl hsz (argsL := argsL) (rest := rest) hlen hst (by show 2 * 0 + _ ≤ _; omega) hd (fun _ _ => ⟨has, eT, hce, hsl⟩)
  dsimp only [Pt.U, Pt.locs, Pt.cells, Pt.slots] at X2 l2 y2 z2 st2 hQ2
  subst l2 y2 z2
  exact ownVia st2 (K v T2 Lc2 X2 hQ2)
theorem ownCallN {own : String} {index : Nat} {y : MethodName} {bytes : ByteArray} {maxL : Nat} {rm : Room} {as' : Array Value} {Q' : Option Value → Heap → List Loc → Prop}
    (X : Stand p l e R s m args below meth c T locs cells slots) (hx : p.tables.exec = Jvm.exec) (hZ : Z.Warmed39 s.vm) (hown : s.vm.findClass own = some m.cls) (hy1 : y.name = "<init>")
    (w1 : (Jvm.Cond.methodLink own index y).before a0 Z = true) (w2 : (Jvm.Cond.instanceMethod y).before a0 Z = true) (w3 : (Jvm.Cond.initialized y.cls).before a0 Z = true) (w4 : (Jvm.Cond.code y bytes maxL none).before a0 Z = true)
    (hy : y.cls ≠ "java/lang/invoke/MethodHandle" ∧ y.cls ≠ "java/lang/invoke/VarHandle") (eT : T.heap = h) (hM : ownMet l Z y bytes maxL none [] rm as' h Q')
    {pc : Nat} {Ls : Array Slot} {st : List Value} (hsz : Ls.size = c.maxLocals) (a : Addr) (argsL rest : List Value) (hlen : ∀ sig, parseMethodDescriptor y.desc = some sig → argsL.length = sig.parameters.length)
    (hst : st = argsL.reverse ++ .ref a :: rest) (has : (Value.ref a :: argsL).toArray = as') (W : Nat) (hW : (rest.map fun v => v.category).sum = W) (hd : decode c.code pc = .ok (.invokespecial index, 3))
    (hfr : rm.frames + 1 ≤ R.frames) (hlo : W + (maxL + 11) + rm.locals ≤ R.locals) (hce : cells + rm.cells ≤ R.cells) (hsl : slots + rm.slots ≤ R.slots)
    (K : ∀ v T' L', Stand p l e R s m args below meth c T' (locs ++ L') (cells + rm.cells) (slots + rm.slots) → Q' v T'.heap L' → ownFin p e below F Q (T'.setTop (mkF m (pc + 3) Ls (v.toList ++ rest)))) :
    ownFin p e below F Q (T.setTop (mkF m pc Ls st)) := by
  obtain ⟨v, _, ⟨T2, L2, k2, n2⟩, -, X2, ⟨Lc2, hQ2, l2, y2, z2⟩, st2⟩ := X.specialBack hx (y := y) hy1 hown (mvT hZ w1) (mvT hZ w2) (mvT hZ w4) hy (backOf (W := W) hM hZ w4 w3 hfr hlo) (g := mkF m pc Ls st) rfl hsz (Steps.refl _) (a := a) (argsL := argsL) (rest := rest) hlen hst (by show 2 * 0 + _ ≤ _; omega) hd (fun _ _ => ⟨has, eT, hce, hsl⟩)
  dsimp only [Pt.U, Pt.locs, Pt.cells, Pt.slots] at X2 l2 y2 z2 st2 hQ2
  subst l2 y2 z2
  exact ownVia (fun _ k => st2.trans k) (K v T2 Lc2 X2 hQ2)
theorem ownCallV {own C' : String} {index : Nat} {y z : MethodName} {bytes : ByteArray} {maxL : Nat} {ret : Option FieldType} {rm : Room} {as' : Array Value} {Q' : Option Value → Heap → List Loc → Prop}
    (X : Stand p l e R s m args below meth c T locs cells slots) (hx : p.tables.exec = Jvm.exec) (hZ : Z.Warmed39 s.vm) (hown : s.vm.findClass own = some m.cls)
    (w1 : (Jvm.Cond.methodLink own index y).before a0 Z = true) (w2 : (Jvm.Cond.declares y).before a0 Z = true) (w5 : (Jvm.Cond.selects y.cls y y).before a0 Z = true) (w6 : (Jvm.Cond.selects C' y z).before a0 Z = true) (w7 : (Jvm.Cond.instanceMethod z).before a0 Z = true) (w3 : (Jvm.Cond.initialized z.cls).before a0 Z = true) (w4 : (Jvm.Cond.code z bytes maxL ret).before a0 Z = true)
    (hy : y.cls ≠ "java/lang/invoke/MethodHandle" ∧ y.cls ≠ "java/lang/invoke/VarHandle") (eT : T.heap = h) {a : Addr} (E : Exa Z h a C') (hM : ownMet l Z z bytes maxL ret [] rm as' h Q')
    {pc : Nat} {Ls : Array Slot} {st : List Value} (hsz : Ls.size = c.maxLocals) (argsL rest : List Value) (hlen : ∀ sig, parseMethodDescriptor y.desc = some sig → argsL.length = sig.parameters.length)
    (hst : st = argsL.reverse ++ .ref a :: rest) (has : (Value.ref a :: argsL).toArray = as') (W : Nat) (hW : (rest.map fun v => v.category).sum = W) (hd : decode c.code pc = .ok (.invokevirtual index, 3))
    (hfr : rm.frames + 1 ≤ R.frames) (hlo : W + (maxL + 11) + rm.locals ≤ R.locals) (hce : cells + rm.cells ≤ R.cells) (hsl : slots + rm.slots ≤ R.slots)
    (K : ∀ v T' L', Stand p l e R s m args below meth c T' (locs ++ L') (cells + rm.cells) (slots + rm.slots) → Q' v T'.heap L' → ownFin p e below F Q (T'.setTop (mkF m (pc + 3) Ls (v.toList ++ rest)))) :
    ownFin p e below F Q (T.setTop (mkF m pc Ls st)) := by
  obtain ⟨cq, kq, qa, qb, qc⟩ := isOf hZ eT E
  obtain ⟨v, _, ⟨T2, L2, k2, n2⟩, -, X2, ⟨Lc2, hQ2, l2, y2, z2⟩, st2⟩ := X.virtualBack hx (y := y) (z := z) hown (mvT hZ w1) (mvT hZ w2) (notFace_of_selects (args := #[]) (mvT hZ w5)) (mvT hZ w6) (mvT hZ w7) hy (backOf (W := W) hM hZ w4 w3 hfr hlo) qa qc (g := mkF m pc Ls st) rfl hsz (Steps.refl _) (argsL := argsL) (rest := rest) hlen hst (by show 2 * 0 + _ ≤ _; omega) hd (fun _ _ => ⟨has, eT, hce, hsl⟩)
  dsimp only [Pt.U, Pt.locs, Pt.cells, Pt.slots] at X2 l2 y2 z2 st2 hQ2
  subst l2 y2 z2
  exact ownVia (fun _ k => st2.trans k) (K v T2 Lc2 X2 hQ2)
theorem ownLen {a : Addr} {k : ClassId} {ty : FieldType} {z : Int32} {vs : List Value} {dv : Value} (X : Stand p l e R s m args below meth c T locs cells slots) (hx : p.tables.exec = Jvm.exec) (hZ : Z.Warmed39 s.vm) (eT : T.heap = h) (A : Arv Z h a k ty z vs dv) {pc : Nat} {Ls : Array Slot} {rest : List Value} (hd : decode c.code pc = .ok (.arraylength, 1))
    (K : ownFin p e below F Q (T.setTop (mkF m (pc + 1) Ls (.int z :: rest)))) : ownFin p e below F Q (T.setTop (mkF m pc Ls (.ref a :: rest))) := by
  obtain ⟨cl, Ar, -, Sz, Nz, -, -⟩ := A
  rw [← len_of Sz Nz] at K
  exact ownVia (fun t k => X.arraylength hx (by rw [eT]; exact Ar.1) (State.isArrayOf_alike hZ.alike Ar.2.1) (g := mkF m pc Ls (.ref a :: rest)) rfl rfl hd t k) K
theorem ownBaload {a : Addr} {k : ClassId} {z j : Int32} {vs : List Value} {dv v : Value} (X : Stand p l e R s m args below meth c T locs cells slots) (hx : p.tables.exec = Jvm.exec) (hZ : Z.Warmed39 s.vm) (eT : T.heap = h) (A : Arv Z h a k .byte z vs dv) (hj : ¬ j < 0 ∧ j < z) (hv : vs.getD j.toNatClampNeg dv = v) {pc : Nat} {Ls : Array Slot} {rest : List Value} (hd : decode c.code pc = .ok (.baload, 1))
    (K : ownFin p e below F Q (T.setTop (mkF m (pc + 1) Ls (v :: rest)))) : ownFin p e below F Q (T.setTop (mkF m pc Ls (.int j :: .ref a :: rest))) := by
  obtain ⟨cl, Ar, -, Sz, Nz, H, -⟩ := A
  have hin := inb_of Sz hj
  exact ownVia (fun t k => X.baloadBytes hx (by rw [eT]; exact Ar.1) (State.isArrayOf_alike hZ.alike Ar.2.1) Ar.2.2 hin (H.at hin hv) (g := mkF m pc Ls (.int j :: .ref a :: rest)) rfl rfl hd t k) K
theorem ownIaload {a : Addr} {k : ClassId} {z j : Int32} {vs : List Value} {dv v : Value} (X : Stand p l e R s m args below meth c T locs cells slots) (hx : p.tables.exec = Jvm.exec) (hZ : Z.Warmed39 s.vm) (eT : T.heap = h) (A : Arv Z h a k .int z vs dv) (hj : ¬ j < 0 ∧ j < z) (hv : vs.getD j.toNatClampNeg dv = v) {pc : Nat} {Ls : Array Slot} {rest : List Value} (hd : decode c.code pc = .ok (.iaload, 1))
    (K : ownFin p e below F Q (T.setTop (mkF m (pc + 1) Ls (v :: rest)))) : ownFin p e below F Q (T.setTop (mkF m pc Ls (.int j :: .ref a :: rest))) := by
  obtain ⟨cl, Ar, -, Sz, Nz, H, -⟩ := A
  have hin := inb_of Sz hj
  exact ownVia (fun t k => X.iaload hx (by rw [eT]; exact Ar.1) (State.isArrayOf_alike hZ.alike Ar.2.1) Ar.2.2 hin (H.at hin hv) (g := mkF m pc Ls (.int j :: .ref a :: rest)) rfl rfl hd t k) K
theorem ownLaload {a : Addr} {k : ClassId} {z j : Int32} {vs : List Value} {dv v : Value} (X : Stand p l e R s m args below meth c T locs cells slots) (hx : p.tables.exec = Jvm.exec) (hZ : Z.Warmed39 s.vm) (eT : T.heap = h) (A : Arv Z h a k .long z vs dv) (hj : ¬ j < 0 ∧ j < z) (hv : vs.getD j.toNatClampNeg dv = v) {pc : Nat} {Ls : Array Slot} {rest : List Value} (hd : decode c.code pc = .ok (.laload, 1))
    (K : ownFin p e below F Q (T.setTop (mkF m (pc + 1) Ls (v :: rest)))) : ownFin p e below F Q (T.setTop (mkF m pc Ls (.int j :: .ref a :: rest))) := by
  obtain ⟨cl, Ar, -, Sz, Nz, H, -⟩ := A
  have hin := inb_of Sz hj
  exact ownVia (fun t k => X.laload hx (by rw [eT]; exact Ar.1) (State.isArrayOf_alike hZ.alike Ar.2.1) Ar.2.2 hin (H.at hin hv) (g := mkF m pc Ls (.int j :: .ref a :: rest)) rfl rfl hd t k) K
theorem ownBastore {a : Addr} {k : ClassId} {z j x : Int32} {vs : List Value} {dv : Value} {n0 : Nat} (X : Stand p l e R s m args below meth c T locs cells slots) (hx : p.tables.exec = Jvm.exec) (hZ : Z.Warmed39 s.vm) (eT : T.heap = h) (A : Arv Z h a k .byte z vs dv) (hj : ¬ j < 0 ∧ j < z) (i : Nat) (hi : j.toNatClampNeg = i) (hl : i < vs.length) (N : Fr n0 locs) (ge : n0 ≤ a) {pc : Nat} {Ls : Array Slot} {rest : List Value} (hd : decode c.code pc = .ok (.bastore, 1))
    (K : ∀ T' h' L', Stand p l e R s m args below meth c T' L' cells slots → T'.heap = h' → Fr n0 L' → Wr h h' a i (.int (nar .byte x)) → Arv Z h' a k .byte z (vs.set i (.int (nar .byte x))) dv → ownFin p e below F Q (T'.setTop (mkF m (pc + 1) Ls rest))) :
    ownFin p e below F Q (T.setTop (mkF m pc Ls (.int x :: .int j :: .ref a :: rest))) := by
  obtain ⟨cl, Ar, q1, Sz, Nz, H, G⟩ := A
  obtain ⟨T', h', X', e', W, st⟩ := stB X hx hZ eT Ar (j := j) (x := x) (inb_of Sz hj) (g := mkF m pc Ls (.int x :: .int j :: .ref a :: rest)) rfl rfl hd
  have N' := Fr.snoc X' N ge
  have A' := Arv.set Ar q1 Sz Nz H G (fits_nar_byte x) W i hi hl
  rw [hi] at W
  exact ownVia st (K T' h' _ X' e' N' W A')
theorem ownIastore {a : Addr} {k : ClassId} {z j x : Int32} {vs : List Value} {dv : Value} {n0 : Nat} (X : Stand p l e R s m args below meth c T locs cells slots) (hx : p.tables.exec = Jvm.exec) (hZ : Z.Warmed39 s.vm) (eT : T.heap = h) (A : Arv Z h a k .int z vs dv) (hj : ¬ j < 0 ∧ j < z) (i : Nat) (hi : j.toNatClampNeg = i) (hl : i < vs.length) (N : Fr n0 locs) (ge : n0 ≤ a) {pc : Nat} {Ls : Array Slot} {rest : List Value} (hd : decode c.code pc = .ok (.iastore, 1))
    (K : ∀ T' h' L', Stand p l e R s m args below meth c T' L' cells slots → T'.heap = h' → Fr n0 L' → Wr h h' a i (.int x) → Arv Z h' a k .int z (vs.set i (.int x)) dv → ownFin p e below F Q (T'.setTop (mkF m (pc + 1) Ls rest))) :
    ownFin p e below F Q (T.setTop (mkF m pc Ls (.int x :: .int j :: .ref a :: rest))) := by
  obtain ⟨cl, Ar, q1, Sz, Nz, H, G⟩ := A
  obtain ⟨T', h', X', e', W, st⟩ := stI X hx hZ eT Ar (j := j) (x := x) (inb_of Sz hj) (g := mkF m pc Ls (.int x :: .int j :: .ref a :: rest)) rfl rfl hd
  have N' := Fr.snoc X' N ge
  have A' := Arv.set Ar q1 Sz Nz H G rfl W i hi hl
  rw [hi] at W
  exact ownVia st (K T' h' _ X' e' N' W A')
theorem ownLastore {a : Addr} {k : ClassId} {z j : Int32} {x : Int64} {vs : List Value} {dv : Value} {n0 : Nat} (X : Stand p l e R s m args below meth c T locs cells slots) (hx : p.tables.exec = Jvm.exec) (hZ : Z.Warmed39 s.vm) (eT : T.heap = h) (A : Arv Z h a k .long z vs dv) (hj : ¬ j < 0 ∧ j < z) (i : Nat) (hi : j.toNatClampNeg = i) (hl : i < vs.length) (N : Fr n0 locs) (ge : n0 ≤ a) {pc : Nat} {Ls : Array Slot} {rest : List Value} (hd : decode c.code pc = .ok (.lastore, 1))
    (K : ∀ T' h' L', Stand p l e R s m args below meth c T' L' cells slots → T'.heap = h' → Fr n0 L' → Wr h h' a i (.long x) → Arv Z h' a k .long z (vs.set i (.long x)) dv → ownFin p e below F Q (T'.setTop (mkF m (pc + 1) Ls rest))) :
    ownFin p e below F Q (T.setTop (mkF m pc Ls (.long x :: .int j :: .ref a :: rest))) := by
  obtain ⟨cl, Ar, q1, Sz, Nz, H, G⟩ := A
  obtain ⟨T', h', X', e', W, st⟩ := stJ X hx hZ eT Ar (j := j) (x := x) (inb_of Sz hj) (g := mkF m pc Ls (.long x :: .int j :: .ref a :: rest)) rfl rfl hd
  have N' := Fr.snoc X' N ge
  have A' := Arv.set Ar q1 Sz Nz H G rfl W i hi hl
  rw [hi] at W
  exact ownVia st (K T' h' _ X' e' N' W A')
theorem ownNewP {aty : ArrayType} {n : Int32} (X : Stand p l e R s m args below meth c T locs cells slots) (hx : p.tables.exec = Jvm.exec) (hZ : Z.Warmed39 s.vm) (w : (Jvm.Cond.arrayClass (newarray.typeOf aty)).before a0 Z = true) (eT : T.heap = h) (ad : String) (had : "[" ++ (newarray.typeOf aty).toString = ad) (hn : ¬ n < 0) (N : Nat) (hN : n.toNatClampNeg = N) (cap : Nat) (hcap : N ≤ cap) (hb : cap * 8 ≤ 536870912) (hc : cells + 1 ≤ R.cells) (hl : slots + cap ≤ R.slots)
    {pc : Nat} {Ls : Array Slot} {rest : List Value} (hd : decode c.code pc = .ok (.newarray aty, 2))
    (K : ∀ T' h' k a, a = h.size → Stand p l e R s m args below meth c T' locs (cells + 1) (slots + cap) → T'.heap = h' → Ext h h' → Arv Z h' a k (newarray.typeOf aty) n (List.replicate N (defaultValue (newarray.typeOf aty))) (defaultValue (newarray.typeOf aty)) → Exa Z h' a ad → ownFin p e below F Q (T'.setTop (mkF m (pc + 2) Ls (.ref a :: rest)))) :
    ownFin p e below F Q (T.setTop (mkF m pc Ls (.int n :: rest))) := by
  obtain ⟨T', h', k, X', e', E, A, Ex, st⟩ := newPE X hx hZ w eT (g := mkF m pc Ls (.int n :: rest)) rfl hd rfl hn (cap := cap) (by rw [hN]; exact hcap) hb hc hl had
  exact ownVia st (K T' h' k _ rfl X' e' E ((Arv.new A hn).pad (pad_rep [] _ _)) Ex)
theorem ownClone {own : String} {index : Nat} {a : Addr} {k : ClassId} {ty : FieldType} {z : Int32} {vs : List Value} {dv : Value} {ad : String} (X : Stand p l e R s m args below meth c T locs cells slots) (hx : p.tables.exec = Jvm.exec) (hZ : Z.Warmed39 s.vm) (hown : s.vm.findClass own = some m.cls)
    (w1 : (Jvm.Cond.methodLink own index ⟨ad, "clone", "()Ljava/lang/Object;"⟩).before a0 Z = true) (w2 : (Jvm.Cond.sameMethod ad "java/lang/Object" "clone" "()Ljava/lang/Object;").before a0 Z = true) (w3 : (Jvm.Cond.native ⟨"java/lang/Object", "clone", "()Ljava/lang/Object;"⟩).before a0 Z = true)
    (w4 : (Jvm.Cond.instanceMethod ⟨"java/lang/Object", "clone", "()Ljava/lang/Object;"⟩).before a0 Z = true) (w5 : (Jvm.Cond.selects ad ⟨ad, "clone", "()Ljava/lang/Object;"⟩ ⟨"java/lang/Object", "clone", "()Ljava/lang/Object;"⟩).before a0 Z = true) (w6 : (Jvm.Cond.castable ad "java/lang/Cloneable").before a0 Z = true)
    (eT : T.heap = h) (A : Arv Z h a k ty z vs dv) (E : Exa Z h a ad) {pc : Nat} {Ls : Array Slot} {rest : List Value} (hsz : Ls.size = c.maxLocals) (hd : decode c.code pc = .ok (.invokevirtual index, 3)) (hf : 1 ≤ R.frames) (W : Nat) (hW : (rest.map fun v => v.category).sum = W) (hlo : W + 14 ≤ R.locals) (cap : Nat) (hcap : z.toNatClampNeg ≤ cap) (hc : cells + 1 ≤ R.cells) (hsl : slots + cap ≤ R.slots)
    (K : ∀ T' h' b, b = h.size → Stand p l e R s m args below meth c T' locs (cells + 1) (slots + cap) → T'.heap = h' → Ext h h' → Arv Z h' b k ty z vs dv → Exa Z h' b ad → ownFin p e below F Q (T'.setTop (mkF m (pc + 3) Ls (.ref b :: rest)))) :
    ownFin p e below F Q (T.setTop (mkF m pc Ls (.ref a :: rest))) := by
  obtain ⟨T', h', X', e', Ex, A', E', st⟩ := cloneH X hx hZ hown w1 w2 w3 w4 w5 w6 eT A.arh E (g := mkF m pc Ls (.ref a :: rest)) rfl hsz rfl hd hf (W := W) (by show 2 * 0 + _ ≤ _; omega) hlo hcap hc hsl
  exact ownVia st (K T' h' _ rfl X' e' Ex A' E')
theorem ownCallP {own : String} {index : Nat} {y y2 : MethodName} {bytes : ByteArray} {maxL : Nat} {ret : Option FieldType} {rm : Room} {as' : Array Value} {Q' : Option Value → Heap → List Loc → Prop} {C' : String}
    (X : Stand p l e R s m args below meth c T locs cells slots) (hx : p.tables.exec = Jvm.exec) (hZ : Z.Warmed39 s.vm) (hown : s.vm.findClass own = some m.cls)
    (w1 : (Jvm.Cond.methodLink own index y).before a0 Z = true) (w2 : (Jvm.Cond.privateMethod y).before a0 Z = true) (w5 : (Jvm.Cond.selects y2.cls y2 y2).before a0 Z = true) (hc2 : y2.cls = y.cls) (w7 : (Jvm.Cond.instanceMethod y).before a0 Z = true) (w3 : (Jvm.Cond.initialized y.cls).before a0 Z = true) (w4 : (Jvm.Cond.code y bytes maxL ret).before a0 Z = true)
    (hy : y.cls ≠ "java/lang/invoke/MethodHandle" ∧ y.cls ≠ "java/lang/invoke/VarHandle") (eT : T.heap = h) {a : Addr} (E : Exa Z h a C') (hM : ownMet l Z y bytes maxL ret [] rm as' h Q')
    {pc : Nat} {Ls : Array Slot} {st : List Value} (hsz : Ls.size = c.maxLocals) (argsL rest : List Value) (hlen : ∀ sig, parseMethodDescriptor y.desc = some sig → argsL.length = sig.parameters.length)
    (hst : st = argsL.reverse ++ .ref a :: rest) (has : (Value.ref a :: argsL).toArray = as') (W : Nat) (hW : (rest.map fun v => v.category).sum = W) (hd : decode c.code pc = .ok (.invokevirtual index, 3))
    (hfr : rm.frames + 1 ≤ R.frames) (hlo : W + (maxL + 11) + rm.locals ≤ R.locals) (hce : cells + rm.cells ≤ R.cells) (hsl : slots + rm.slots ≤ R.slots)
    (K : ∀ v T' L', Stand p l e R s m args below meth c T' (locs ++ L') (cells + rm.cells) (slots + rm.slots) → Q' v T'.heap L' → ownFin p e below F Q (T'.setTop (mkF m (pc + 3) Ls (v.toList ++ rest)))) :
    ownFin p e below F Q (T.setTop (mkF m pc Ls st)) := by
  have hpriv : s.PrivateAt y := Cond.privateMethod_at (mvP hZ w2 (args := #[]))
  have hsel2 : (Jvm.Cond.selects y2.cls y2 y2).before args s = true := mvT hZ w5
  obtain ⟨c2, r2, m2, q1, q2, q3, q4, kP, hkP, hkPi⟩ := Cond.selects_spec hsel2
  have hf2 := findClass_of_methodNamed q3
  rw [hc2] at hf2
  have hsel : (Jvm.Cond.selects y.cls y y).before args s = true := selects_self_of_private hf2 hkP hkPi hpriv (mvT hZ w7) hy
  obtain ⟨cq, qc1, qc2⟩ := E.cell
  obtain ⟨v, _, ⟨T2, L2, k2, n2⟩, -, X2, ⟨Lc2, hQ2, l2, y2', z2⟩, st2⟩ := X.privateBack hx (y := y) hown (mvT hZ w1) (mvT hZ w7) hsel hpriv (mvT hZ w4) hy (backOf (W := W) hM hZ w4 w3 hfr hlo) (g := mkF m pc Ls st) rfl hsz (Steps.refl _) (a := a) (by rw [eT]; exact qc1) qc2 (argsL := argsL) (rest := rest) hlen hst (by show 2 * 0 + _ ≤ _; omega) hd (fun _ _ => ⟨has, eT, hce, hsl⟩)
  dsimp only [Pt.U, Pt.locs, Pt.cells, Pt.slots] at X2 l2 y2' z2 st2 hQ2
  subst l2 y2' z2
  exact ownVia (fun _ k => st2.trans k) (K v T2 Lc2 X2 hQ2)
theorem ownCast {own K' : String} {index : Nat} {a : Addr} (X : Stand p l e R s m args below meth c T locs cells slots) (hx : p.tables.exec = Jvm.exec) (hZ : Z.Warmed39 s.vm) (hown : s.vm.findClass own = some m.cls) (w : (Jvm.Cond.classLink own index K').before a0 Z = true) (eT : T.heap = h) (FI : Ins Z h a K' true) {pc : Nat} {Ls : Array Slot} {rest : List Value} (hd : decode c.code pc = .ok (.checkcast index, 3))
    (K : ∀ T', Stand p l e R s m args below meth c T' locs cells slots → T'.heap = h → ownFin p e below F Q (T'.setTop (mkF m (pc + 3) Ls (.ref a :: rest)))) : ownFin p e below F Q (T.setTop (mkF m pc Ls (.ref a :: rest))) := by
  obtain ⟨T', X', e', st⟩ := castY X hx hZ hown w eT FI (g := mkF m pc Ls (.ref a :: rest)) rfl rfl hd
  exact ownVia st (K T' X' e')
theorem own_clamp {j : Int32} {n : Nat} (h : j.toInt = (n : Int)) : j.toNatClampNeg = n := by
  show j.toInt.toNat = n
  rw [h]; rfl
theorem own_nneg {j : Int32} {n : Nat} (h : j.toInt = (n : Int)) : ¬ j < 0 := fun q => by
  have := Int32.lt_iff_toInt_lt.mp q
  have k0 : (0 : Int32).toInt = 0 := by decide
  omega
theorem ownCopy {own : String} {index : Nat} {a b : Addr} {k k' : ClassId} {ty : FieldType} {z z' sp dp nn : Int32} {vs vd : List Value} {dv dd : Value} {n0 : Nat} (X : Stand p l e R s m args below meth c T locs cells slots) (hx : p.tables.exec = Jvm.exec) (hZ : Z.Warmed39 s.vm) (hown : s.vm.findClass own = some m.cls)
    (w1 : (Jvm.Cond.methodLink own index Jvm.Stand.acN).before a0 Z = true) (w2 : (Jvm.Cond.native Jvm.Stand.acN).before a0 Z = true) (w3 : (Jvm.Cond.static Jvm.Stand.acN).before a0 Z = true) (w4 : (Jvm.Cond.initialized "java/lang/System").before a0 Z = true) (eT : T.heap = h)
    (A : Arv Z h a k ty z vs dv) (B : Arv Z h b k' ty z' vd dd) (hty : refKind ty = false) (i j n lz lz' : Nat) (hi : sp.toInt = (i : Int)) (hj : dp.toInt = (j : Int)) (hn : nn.toInt = (n : Int)) (hz : z.toInt = (lz : Int)) (hz' : z'.toInt = (lz' : Int)) (h4 : i + n ≤ lz) (h5 : j + n ≤ lz') (hl : j + n ≤ vd.length) (N : Fr n0 locs) (ge : n0 ≤ b)
    {pc : Nat} {Ls : Array Slot} {rest : List Value} (hsz : Ls.size = c.maxLocals) (hd : decode c.code pc = .ok (.invokestatic index, 3)) (hf : 1 ≤ R.frames) (W : Nat) (hW : (rest.map fun v => v.category).sum = W) (hlo : W + (nativeFrameWords "java/lang/System" "arraycopy" 5 + 11) ≤ R.locals)
    (K : ∀ T' h' L', Stand p l e R s m args below meth c T' L' cells slots → T'.heap = h' → Fr n0 L' → Keep h h' [b] → Arv Z h' b k' ty z' (vd.take j ++ ((List.range n).map fun x => vs.getD (i + x) dv) ++ vd.drop (j + n)) dd → ownFin p e below F Q (T'.setTop (mkF m (pc + 3) Ls rest))) :
    ownFin p e below F Q (T.setTop (mkF m pc Ls (.int nn :: .int dp :: .ref b :: .int sp :: .ref a :: rest))) := by
  have e1 := own_clamp hi
  have e2 := own_clamp hj
  have e3 := own_clamp hn
  have e4 := own_clamp hz
  have e5 := own_clamp hz'
  obtain ⟨T', h', L', X', e', N', K', B', st⟩ := cpA X hx hZ hown w1 w2 w3 w4 eT A B (Or.inl ⟨rfl, hty⟩) (own_nneg hi) (own_nneg hj) (own_nneg hn) (by omega) (by omega) rfl (by omega) N ge (g := mkF m pc Ls (.int nn :: .int dp :: .ref b :: .int sp :: .ref a :: rest)) rfl hsz rfl hd hf (W := W) (by show 2 * 0 + _ ≤ _; omega) hlo
  rw [e1, e2, e3] at B'
  exact ownVia st (K T' h' L' X' e' N' K' B')
theorem own_lti {a b : Int32} {x y : Int} (ha : a.toInt = x) (hb : b.toInt = y) : a < b ↔ x < y := by rw [Int32.lt_iff_toInt_lt, ha, hb]
theorem own_sub {a b : Int32} {i j : Nat} (ha : a.toInt = (i : Int)) (hb : b.toInt = (j : Int)) (h : j ≤ i) : (a - b).toInt = ((i - j : Nat) : Int) := by
  have h1 := c_isub a b
  have h2 := rng32 (a - b)
  have h3 := rng32 a
  have h4 := rng32 b
  omega
theorem own_add {a b : Int32} {i j : Nat} (ha : a.toInt = (i : Int)) (hb : b.toInt = (j : Int)) (h : i + j < 2147483648) : (a + b).toInt = ((i + j : Nat) : Int) := by
  have h1 := c_iadd a b
  have h2 := rng32 (a + b)
  omega
theorem own_nlt {a b : Int32} {i j : Int} (ha : a.toInt = i) (hb : b.toInt = j) (h : j ≤ i) : ¬ a < b := fun q => by
  have := (own_lti ha hb).mp q
  omega
theorem own_enum {args : Array Value} {C n d K : String} (hx : (Jvm.Cond.exactly (.static C n d) K).value args s none s [] = some true) (wi : (Jvm.Cond.initialized C).before args s = true) (wl : (Jvm.Cond.laysStatic C n d).before args s = true) :
    ∃ a, (Term.static C n d).eval args s none [] s = some (.ref a) ∧ Sta s s.heap C n d (.ref a) ∧ Exa s s.heap a K := by
  obtain ⟨a, ev⟩ := exa_v hx
  exact ⟨a, ev, Sta.start ev (Or.inr ⟨wi, wl⟩), Exa.start ev hx⟩
theorem own_eqv {args : Array Value} {t : Term} {k : Int32} (hf : (Jvm.Cond.eq t (.int k)).value args s none s [] = some true) : t.eval args s none [] s = some (.int k) := by
  cases hv : t.eval args s none [] s with
  | none => simp [Cond.value, hv] at hf
  | some v =>
    cases v <;> simp [Cond.value, hv, Term.eval] at hf
    rw [hf]
theorem own_efld {args : Array Value} {t : Term} {a : Addr} {C n d : String} {k : Int32} (ev : t.eval args s none [] s = some (.ref a)) (hf : (Jvm.Cond.eq (.field t C n d) (.int k)).value args s none s [] = some true) : Fld s s.heap a C n d (.int k) :=
  Fld.start ((fld_at ev).symm.trans (own_eqv hf))
theorem own_iff_f {A B P : Prop} (hA : ¬ A) (h : P ↔ A ∨ B) : P ↔ B := by simpa [hA] using h
theorem own_iff_t {A B P : Prop} (hA : A) (h : P ↔ A ∨ B) : P := h.mpr (Or.inl hA)
theorem own_ref_ne {a b : Addr} (h : a ≠ b) : ¬ (Value.ref a) = .ref b := fun q => h (by cases q; rfl)
theorem own_sz {n0 : Nat} {h' : Heap} (q : n0 ≤ h.size) (E : Ext h h') : n0 ≤ h'.size := Nat.le_trans q E.1
theorem own_szW {n0 : Nat} {h' : Heap} {a : Addr} {sl : Nat} {v : Value} (q : n0 ≤ h.size) (W : Wr h h' a sl v) : n0 ≤ h'.size := by rw [W.size]; exact q
theorem own_eqi {a b : Int32} {x y : Int} (ha : a.toInt = x) (hb : b.toInt = y) : a = b ↔ x = y := by rw [← Int32.toInt_inj, ha, hb]
theorem own_ltl {a b : Int64} {x y : Int} (ha : a.toInt = x) (hb : b.toInt = y) : a < b ↔ x < y := by rw [Int64.lt_iff_toInt_lt, ha, hb]
theorem own_eql {a b : Int64} {x y : Int} (ha : a.toInt = x) (hb : b.toInt = y) : a = b ↔ x = y := by rw [← Int64.toInt_inj, ha, hb]
theorem own_getD_map {α β : Type} (f : α → β) (d : α) (xs : List α) (n : Nat) : (xs.map f).getD n (f d) = f (xs.getD n d) := by
  simp only [List.getD_eq_getElem?_getD, List.getElem?_map]
  cases xs[n]? <;> rfl
theorem own_idx {j z : Int32} {zi : Int} (hz : z.toInt = zi) (h1 : 0 ≤ j.toInt) (h2 : j.toInt < zi) : ¬ j < 0 ∧ j < z := ⟨fun q => by have := (own_lti rfl (by decide : (0 : Int32).toInt = 0)).mp q; omega, Int32.lt_iff_toInt_lt.mpr (by rw [hz]; exact h2)⟩
end Own
section OwnW
variable {p : Program} {l : Launch} {e : Env} {R : Room} {s : State} {m : MethodId} {args : Array Value} {below : List Frame} {meth : Method} {c : Code} {T : State} {locs : List Loc} {cells slots : Nat} {Z : State} {a0 : Array Value} {h : Heap} {Q : Option Value → Heap → List Loc → Prop} {C S : Nat} {u u' : State} {F : Outcome → State → List Loc → Prop} {vm0 : Vm}
def ownFW (s : State) (C S : Nat) : Outcome → State → List Loc → Prop := fun o t L => ReturnedEndW s o t L C S
theorem ownRetW (X : Stand p l e R (s.setVm vm0) m args below meth c T locs cells slots) (hlk : meth.locks = false) {k0 : Nat} (hS : s.Since vm0 k0) (hk : k0 ≤ T.heap.size) {v : Option Value} (hv : meth.sig.returnType = none → v = none)
    (f : ∀ fs, (∀ (f : JFrame) (acts : List Action), f.method = m → f.locked = none → f.entered = [] → (doReturn e (T.setTop f) acts v).1 = T.setFrames fs) → Steps p.tables e below u (T.setFrames fs))
    (hC : cells ≤ C) (hS' : slots ≤ S) (hQ : Q v T.heap locs) : ownFin p e below (ownFW s C S) Q u := by
  obtain ⟨fs, hr, hrun, hended, hE⟩ := X.leaveW hS hk (v := v) hv hlk
  exact ⟨_, _, f fs hr, hrun, hended, v, _, rfl, hQ, hE.1, hE.2.1, hE.2.2.1, hE.2.2.2.mono hC hS'⟩
theorem ownRetZW (X : Stand p l e R (s.setVm vm0) m args below meth c T locs cells slots) (hx : p.tables.exec = Jvm.exec) (hlk : meth.locks = false) {k0 : Nat} (hS : s.Since vm0 k0) (hk : k0 ≤ T.heap.size) (hret : meth.sig.returnType = some .boolean) {pc : Nat} {Ls : Array Slot} {z : Int32} {rest : List Value} (hd : decode c.code pc = .ok (.ireturn, 1)) (hC : cells ≤ C) (hS' : slots ≤ S) (hz : z = 0 ∨ z = 1) (hQ : Q (some (.int z)) T.heap locs) : ownFin p e below (ownFW s C S) Q (T.setTop (mkF m pc Ls (.int z :: rest))) :=
  ownRetW X hlk hS hk (v := some (.int z)) (fun q => by rw [hret] at q; cases q) (fun fs hr => retOut X hx hret (by rcases hz with rfl | rfl <;> rfl) (Or.inl ⟨rfl, Or.inr (Or.inl rfl), z, rfl⟩) hd hr) hC hS' hQ
theorem ownRetVW (X : Stand p l e R (s.setVm vm0) m args below meth c T locs cells slots) (hx : p.tables.exec = Jvm.exec) (hlk : meth.locks = false) {k0 : Nat} (hS : s.Since vm0 k0) (hk : k0 ≤ T.heap.size) (hret : meth.sig.returnType = none) {pc : Nat} {Ls : Array Slot} (hd : decode c.code pc = .ok (.return_, 1)) (hC : cells ≤ C) (hS' : slots ≤ S) (hQ : Q none T.heap locs) : ownFin p e below (ownFW s C S) Q (T.setTop (mkF m pc Ls [])) :=
  ownRetW X hlk hS hk (v := none) (fun _ => rfl) (fun fs hr => X.returnOut hx hret hd hr) hC hS' hQ
abbrev ownMetW (l : Launch) (Z : State) (y : MethodName) (bytes : ByteArray) (maxL : Nat) (ret : Option FieldType) (ws : List Jvm.Cond) (rm : Room) (as' : Array Value) (h0 : Heap) (Q : Option Value → Heap → List Loc → Prop) : Prop :=
  MetFree l y (head1 (Jvm.Cond.code y bytes maxL ret :: ws) rm) (fun a U => a = as' ∧ Z.Warmed39 U.vm ∧ U.heap = h0) (fun _ _ _ _ _ => True) (fun _ U o U' => ∃ v L, o = .returned v ∧ Q v U'.heap L ∧ ReturnedEndW U o U' L rm.cells rm.slots)
theorem ownBodyW {y : MethodName} {bytes : ByteArray} {maxL : Nat} {ret : Option FieldType} {ws : List Jvm.Cond} {rm : Room} {as' : Array Value} {h0 : Heap} (hpl : plainFor y = true)
    (H : ∀ (p : Program) (e : Env) (s : State) (m : MethodId) (below : List Frame) (meth : Method) (c : Code) (T : State), p.tables.exec = Jvm.exec → c.code = bytes → c.maxLocals = maxL → meth.sig.returnType = ret → meth.locks = false → Z.Warmed39 s.vm → s.vm.findClass y.cls = some m.cls → meth.name = y.name →
      Stand p l e rm s m as' below meth c T [] 0 0 → T.heap = h0 → ownFin p e below (ownFW s rm.cells rm.slots) Q (T.setTop (entryFrame m as' maxL))) : ownMetW l Z y bytes maxL ret ws rm as' h0 Q := by
  refine MetFree.of_bodySF hpl hisR ?_
  intro p e s m args below meth c s₁ Bd hml0 hP hK
  obtain ⟨rfl, hZ, hh⟩ := hP
  exact H p e s m below meth c s₁ Bd.exec Bd.bytes hml0 Bd.returns Bd.notSynchronized hZ (findClass_of_methodNamed Bd.named) (name_of_methodNamed Bd.named Bd.method).1 (Stand.of_body Bd) (by rw [← hh, Bd.state]; rfl)
theorem ownLdc {own text : String} {index k0 : Nat} (X : Stand p l e R (s.setVm vm0) m args below meth c T locs cells slots) (hx : p.tables.exec = Jvm.exec) (hZ : Z.Warmed39 vm0) (hown : vm0.findClass own = some m.cls) (w : (Jvm.Cond.stringLink own index text).before a0 Z = true) (wS : ∀ a ∈ Bundle.stringAtoms, a.before a0 Z = true)
    (eT : T.heap = h) (hS : s.Since vm0 k0) (hk : k0 ≤ h.size) {n : Nat} (hn : 4 * text.toList.length ≤ n) (hbig : n ≤ 536870912) (hc : cells + 2 ≤ R.cells) (hl : slots + (n + 4) ≤ R.slots) {pc : Nat} {Ls : Array Slot} {st : List Value} (hd : decode c.code pc = .ok (.ldc index, 2))
    (K : ∀ a T' h', Stand p l e R (s.setVm T'.vm) m args below meth c T' locs (cells + 2) (slots + (n + 4)) → T'.heap = h' → Ext h h' → Z.Warmed39 (s.setVm T'.vm).vm → (s.setVm T'.vm).vm.findClass own = some m.cls → s.Since T'.vm h'.size → h'.size ≤ h'.size → ownFin p e below F Q (T'.setTop (mkF m (pc + 2) Ls (.ref a :: st)))) :
    ownFin p e below F Q (T.setTop (mkF m pc Ls st)) := by
  subst eT
  obtain ⟨a, T', X', hS', -, hb, -, stp⟩ := X.ldcStringCold hx (own := own) hown (mvS hZ w) (fun d hd => by
    have q := wS d hd
    simp only [Bundle.stringAtoms, List.mem_cons, List.not_mem_nil, or_false] at hd
    rcases hd with rfl | rfl | rfl | rfl | rfl | rfl | rfl
    · exact mv (s := s.setVm vm0) hZ q
    · exact mv (s := s.setVm vm0) hZ q
    · exact mvA (s := s.setVm vm0) hZ q
    · exact mv (s := s.setVm vm0) hZ q
    · exact mv (s := s.setVm vm0) hZ q
    · exact mv (s := s.setVm vm0) hZ q
    · exact mv (s := s.setVm vm0) hZ q) (g := mkF m pc Ls st) rfl hd hn hbig hc hl
  have E := ext_of hb
  exact ownVia stp (K a T' _ X' rfl E (State.Warmed39.trans (t := s.setVm vm0) hZ hS'.1) (by rw [show (s.setVm T'.vm).vm = T'.vm from rfl, hS'.1.alike.findClass]; exact hown) (hS.trans hS' (Nat.le_trans hk E.1)) (Nat.le_refl _))
theorem ownCallNW {own : String} {index : Nat} {y : MethodName} {bytes : ByteArray} {maxL : Nat} {rm : Room} {as' : Array Value} {Q' : Option Value → Heap → List Loc → Prop}
    (X : Stand p l e R s m args below meth c T locs cells slots) (hx : p.tables.exec = Jvm.exec) (hZ : Z.Warmed39 s.vm) (hown : s.vm.findClass own = some m.cls) (hy1 : y.name = "<init>")
    (w1 : (Jvm.Cond.methodLink own index y).before a0 Z = true) (w2 : (Jvm.Cond.instanceMethod y).before a0 Z = true) (w3 : (Jvm.Cond.initialized y.cls).before a0 Z = true) (w4 : (Jvm.Cond.code y bytes maxL none).before a0 Z = true)
    (hy : y.cls ≠ "java/lang/invoke/MethodHandle" ∧ y.cls ≠ "java/lang/invoke/VarHandle") (eT : T.heap = h) (hM : ownMetW l Z y bytes maxL none [] rm as' h Q')
    {pc : Nat} {Ls : Array Slot} {st : List Value} (hsz : Ls.size = c.maxLocals) (a : Addr) (argsL rest : List Value) (hlen : ∀ sig, parseMethodDescriptor y.desc = some sig → argsL.length = sig.parameters.length)
    (hst : st = argsL.reverse ++ .ref a :: rest) (has : (Value.ref a :: argsL).toArray = as') (W : Nat) (hW : (rest.map fun v => v.category).sum = W) (hd : decode c.code pc = .ok (.invokespecial index, 3))
    (hfr : rm.frames + 1 ≤ R.frames) (hlo : W + (maxL + 11) + rm.locals ≤ R.locals) (hce : cells + rm.cells ≤ R.cells) (hsl : slots + rm.slots ≤ R.slots)
    (K : ∀ v T' L', Stand p l e R (s.setVm T'.vm) m args below meth c T' (locs ++ L') (cells + rm.cells) (slots + rm.slots) → Q' v T'.heap L' → Z.Warmed39 (s.setVm T'.vm).vm → (s.setVm T'.vm).vm.findClass own = some m.cls → s.Since T'.vm T'.heap.size → T'.heap.size ≤ T'.heap.size → ownFin p e below F Q (T'.setTop (mkF m (pc + 3) Ls (v.toList ++ rest)))) :
    ownFin p e below F Q (T.setTop (mkF m pc Ls st)) := by
  obtain ⟨v, _, ⟨T2, L2, k2, n2⟩, -, X2, hSi, -, ⟨Lc2, hQ2, l2, y2, z2⟩, st2⟩ := X.specialBackS hx (y := y) hy1 hown (mvT hZ w1) (mvT hZ w2) (mvT hZ w4) hy (backOfS (W := W) hM hZ w4 w3 hfr hlo) (g := mkF m pc Ls st) rfl hsz (Steps.refl _) (a := a) (argsL := argsL) (rest := rest) hlen hst (by show 2 * 0 + _ ≤ _; omega) hd (fun _ _ => ⟨has, eT, hce, hsl⟩)
  dsimp only [Pt.U, Pt.locs, Pt.cells, Pt.slots] at X2 l2 y2 z2 st2 hQ2 hSi
  subst l2 y2 z2
  exact ownVia (fun _ k => st2.trans k) (K v T2 Lc2 X2 hQ2 (State.Warmed39.trans hZ hSi.1) (by rw [show (s.setVm T2.vm).vm = T2.vm from rfl, hSi.1.alike.findClass]; exact hown) hSi (Nat.le_refl _))
theorem ownCallU {own C' owner : String} {index : Nat} {y : MethodName} {bytes : ByteArray} {maxL : Nat} {ret : Option FieldType} {rm : Room} {as' : Array Value} {Q' : Option Value → Heap → List Loc → Prop} {z : MethodName}
    (X : Stand p l e R s m args below meth c T locs cells slots) (hx : p.tables.exec = Jvm.exec) (hZ : Z.Warmed39 s.vm) (hown : s.vm.findClass own = some m.cls)
    (w1 : (Jvm.Cond.methodLink own index y).before a0 Z = true) (w2 : (Jvm.Cond.sameMethod y.cls owner y.name y.desc).before a0 Z = true) (w5 : (Jvm.Cond.declares ⟨owner, y.name, y.desc⟩).before a0 Z = true) (hy : owner ≠ "java/lang/invoke/MethodHandle" ∧ owner ≠ "java/lang/invoke/VarHandle") (w6 : (Jvm.Cond.selects C' y z).before a0 Z = true) (w7 : (Jvm.Cond.instanceMethod z).before a0 Z = true) (w3 : (Jvm.Cond.initialized z.cls).before a0 Z = true) (w4 : (Jvm.Cond.code z bytes maxL ret).before a0 Z = true)
    (eT : T.heap = h) {a : Addr} (E : Exa Z h a C') (hM : ownMet l Z z bytes maxL ret [] rm as' h Q')
    {pc : Nat} {Ls : Array Slot} {st : List Value} (hsz : Ls.size = c.maxLocals) (argsL rest : List Value) (hlen : ∀ sig, parseMethodDescriptor y.desc = some sig → argsL.length = sig.parameters.length)
    (hst : st = argsL.reverse ++ .ref a :: rest) (has : (Value.ref a :: argsL).toArray = as') (W : Nat) (hW : (rest.map fun v => v.category).sum = W) (hd : decode c.code pc = .ok (.invokevirtual index, 3))
    (hfr : rm.frames + 1 ≤ R.frames) (hlo : W + (maxL + 11) + rm.locals ≤ R.locals) (hce : cells + rm.cells ≤ R.cells) (hsl : slots + rm.slots ≤ R.slots)
    (K : ∀ v T' L', Stand p l e R s m args below meth c T' (locs ++ L') (cells + rm.cells) (slots + rm.slots) → Q' v T'.heap L' → ownFin p e below F Q (T'.setTop (mkF m (pc + 3) Ls (v.toList ++ rest)))) :
    ownFin p e below F Q (T.setTop (mkF m pc Ls st)) := by
  obtain ⟨cq, kq, qa, qb, qc⟩ := isOf hZ eT E
  obtain ⟨v, _, ⟨T2, L2, k2, n2⟩, -, X2, ⟨Lc2, hQ2, l2, y2, z2⟩, st2⟩ := X.virtualBackUp hx (x := y) (y := z) (owner := owner) hown (mvT hZ w1) (mvT hZ w2) (mvT hZ w5) hy (mvT hZ w6) (mvT hZ w7) (backOf (W := W) hM hZ w4 w3 hfr hlo) qa qc (g := mkF m pc Ls st) rfl hsz (Steps.refl _) (argsL := argsL) (rest := rest) hlen hst (by show 2 * 0 + _ ≤ _; omega) hd (fun _ _ => ⟨has, eT, hce, hsl⟩)
  dsimp only [Pt.U, Pt.locs, Pt.cells, Pt.slots] at X2 l2 y2 z2 st2 hQ2
  subst l2 y2 z2
  exact ownVia (fun _ k => st2.trans k) (K v T2 Lc2 X2 hQ2)
end OwnW
theorem own_satoms {Z : State} {a0 : Array Value} (hw : ∀ d ∈ tables_1, d.before a0 Z = true) : ∀ a ∈ Bundle.stringAtoms, a.before a0 Z = true := by
  intro d hd
  simp only [Bundle.stringAtoms, List.mem_cons, List.not_mem_nil, or_false] at hd
  rcases hd with rfl | rfl | rfl | rfl | rfl | rfl | rfl
  · exact (hw _ (List.mem_of_getElem? (i := 2) rfl))
  · exact (hw _ (List.mem_of_getElem? (i := 10) rfl))
  · exact (hw _ (List.mem_of_getElem? (i := 14) rfl))
  · exact (hw _ (List.mem_of_getElem? (i := 23) rfl))
  · exact (hw _ (List.mem_of_getElem? (i := 25) rfl))
  · exact (hw _ (List.mem_of_getElem? (i := 104) rfl))
  · exact (hw _ (List.mem_of_getElem? (i := 105) rfl))

section OwnI
variable {p : Program} {l : Launch} {e : Env} {R : Room} {s : State} {m : MethodId} {args : Array Value} {below : List Frame} {meth : Method} {c : Code} {T : State} {locs : List Loc} {cells slots : Nat} {Z : State} {a0 : Array Value} {h : Heap} {Q : Option Value → Heap → List Loc → Prop} {C S : Nat} {u u' : State} {F : Outcome → State → List Loc → Prop} {vm0 : Vm}
theorem ownRetAW (X : Stand p l e R (s.setVm vm0) m args below meth c T locs cells slots) (hx : p.tables.exec = Jvm.exec) (hlk : meth.locks = false) {k0 : Nat} (hS : s.Since vm0 k0) (hk : k0 ≤ T.heap.size) {ty : FieldType} (hret : meth.sig.returnType = some ty) (hty : ty.isReference = true) {pc : Nat} {Ls : Array Slot} {a : Addr} {rest : List Value} (hd : decode c.code pc = .ok (.areturn, 1)) (hC : cells ≤ C) (hS' : slots ≤ S) (hQ : Q (some (.ref a)) T.heap locs) : ownFin p e below (ownFW s C S) Q (T.setTop (mkF m pc Ls (.ref a :: rest))) :=
  ownRetW X hlk hS hk (v := some (.ref a)) (fun q => by rw [hret] at q; cases q) (fun fs hr => retOut X hx hret (by cases ty <;> first | rfl | cases hty) (Or.inr (Or.inr (Or.inr (Or.inr ⟨rfl, hty, rfl⟩)))) hd hr) hC hS' hQ
theorem ownRetB (X : Stand p l e R s m args below meth c T locs cells slots) (hx : p.tables.exec = Jvm.exec) (hlk : meth.locks = false) (hret : meth.sig.returnType = some .byte) {pc : Nat} {Ls : Array Slot} {z : Int32} {rest : List Value} (hd : decode c.code pc = .ok (.ireturn, 1)) (hC : cells ≤ C) (hS : slots ≤ S) (hz : narrow .byte (.int z) = .int z) (hQ : Q (some (.int z)) T.heap locs) : ownFin p e below (ownFE s C S) Q (T.setTop (mkF m pc Ls (.int z :: rest))) :=
  ownRet X hlk (v := some (.int z)) (fun q => by rw [hret] at q; cases q) (fun fs hr => retOut X hx hret hz (Or.inl ⟨rfl, Or.inr (Or.inr (Or.inl rfl)), z, rfl⟩) hd hr) hC hS hQ
abbrev ownMetI (l : Launch) (Z : State) (y : MethodName) (bytes : ByteArray) (maxL : Nat) (ret : Option FieldType) (ws : List Jvm.Cond) (rm : Room) (as' : Array Value) (h0 : Heap) (Q : Option Value → Heap → List Loc → Prop) : Prop :=
  MetFree l y (head1 (Jvm.Cond.code y bytes maxL ret :: ws) rm) (fun a U => a = as' ∧ Z.Warmed39 U.vm ∧ U.heap = h0 ∧ IB Z U.vm []) (fun _ _ _ _ _ => True) (fun _ U o U' => ∃ v L, o = .returned v ∧ Q v U'.heap L ∧ ReturnedEndW U o U' L rm.cells rm.slots)
theorem ownBodyI {y : MethodName} {bytes : ByteArray} {maxL : Nat} {ret : Option FieldType} {ws : List Jvm.Cond} {rm : Room} {as' : Array Value} {h0 : Heap} (hpl : plainFor y = true)
    (H : ∀ (p : Program) (e : Env) (s : State) (m : MethodId) (below : List Frame) (meth : Method) (c : Code) (T : State), p.tables.exec = Jvm.exec → c.code = bytes → c.maxLocals = maxL → meth.sig.returnType = ret → meth.locks = false → Z.Warmed39 s.vm → s.vm.findClass y.cls = some m.cls → meth.name = y.name →
      Stand p l e rm s m as' below meth c T [] 0 0 → T.heap = h0 → s.heap = h0 → IB Z s.vm [] → ownFin p e below (ownFW s rm.cells rm.slots) Q (T.setTop (entryFrame m as' maxL))) : ownMetI l Z y bytes maxL ret ws rm as' h0 Q := by
  refine MetFree.of_bodySF hpl hisR ?_
  intro p e s m args below meth c s₁ Bd hml0 hP hK
  obtain ⟨rfl, hZ, hh, hI⟩ := hP
  exact H p e s m below meth c s₁ Bd.exec Bd.bytes hml0 Bd.returns Bd.notSynchronized hZ (findClass_of_methodNamed Bd.named) (name_of_methodNamed Bd.named Bd.method).1 (Stand.of_body Bd) (by rw [← hh, Bd.state]; rfl) hh hI
theorem ownBackI {y : MethodName} {bytes : ByteArray} {maxL : Nat} {ret : Option FieldType} {rm : Room} {len W : Nat} {as' : Array Value} {Q : Option Value → Heap → List Loc → Prop}
    (hM : ownMetI l Z y bytes maxL ret [] rm as' h Q) (hZ : Z.Warmed39 s.vm) (hI : IB Z s.vm []) (wc : (Jvm.Cond.code y bytes maxL ret).before a0 Z = true) (wz : (Jvm.Cond.initialized y.cls).before a0 Z = true) (hf : rm.frames + 1 ≤ R.frames) (hl : W + (maxL + 11) + rm.locals ≤ R.locals) :
    BackS l R p e below s args y len W (fun A a => a = as' ∧ A.U.heap = h ∧ A.cells + rm.cells ≤ R.cells ∧ A.slots + rm.slots ≤ R.slots)
      (fun A _ v B => ∃ L, Q v B.U.heap L ∧ B.locs = A.locs ++ L ∧ B.cells = A.cells + rm.cells ∧ B.slots = A.slots + rm.slots) :=
  BackS.of_freeW (bytes := bytes) (maxL := maxL) (ret := ret) (E := fun _ _ o t L k n => k = rm.cells ∧ n = rm.slots ∧ ∃ v, o = .returned v ∧ Q v t.heap L) hM hf hl
    (fun m meth c A a Y hp => have hU : Z.Warmed39 A.U.vm := wtrans hZ Y.warmed
      ⟨by show (Cond.and _ .tt).before a A.U = true; rw [Cond.before_and, mv hU wc]; rfl, mv hU wc, mv hU wz, hp.2.2.1, hp.2.2.2⟩)
    (fun m meth c A a g mk Y hp => ⟨hp.1, wtrans hZ Y.warmed, hp.2.1, by obtain ⟨more, q1, q2⟩ := hI; exact ⟨more, Y.warmed.interned_eq.trans q1, q2⟩⟩) (fun _ _ _ _ _ _ _ _ _ => trivial)
    (fun _ _ _ _ ⟨v, L, h1, h2, h3⟩ => ⟨L, _, _, h3, rfl, rfl, v, h1, h2⟩)
    (fun m meth c A a g mk v t L k n Y hp _ _ ⟨e1, e2, v', e3, e4⟩ => by cases e3; subst e1 e2; exact ⟨L, e4, rfl, rfl, rfl⟩)
theorem ownCallNI {own : String} {index : Nat} {y : MethodName} {bytes : ByteArray} {maxL : Nat} {rm : Room} {as' : Array Value} {Q' : Option Value → Heap → List Loc → Prop}
    (X : Stand p l e R s m args below meth c T locs cells slots) (hx : p.tables.exec = Jvm.exec) (hZ : Z.Warmed39 s.vm) (hI : IB Z s.vm []) (hown : s.vm.findClass own = some m.cls) (hy1 : y.name = "<init>")
    (w1 : (Jvm.Cond.methodLink own index y).before a0 Z = true) (w2 : (Jvm.Cond.instanceMethod y).before a0 Z = true) (w3 : (Jvm.Cond.initialized y.cls).before a0 Z = true) (w4 : (Jvm.Cond.code y bytes maxL none).before a0 Z = true)
    (hy : y.cls ≠ "java/lang/invoke/MethodHandle" ∧ y.cls ≠ "java/lang/invoke/VarHandle") (eT : T.heap = h) (hM : ownMetI l Z y bytes maxL none [] rm as' h Q')
    {pc : Nat} {Ls : Array Slot} {st : List Value} (hsz : Ls.size = c.maxLocals) (a : Addr) (argsL rest : List Value) (hlen : ∀ sig, parseMethodDescriptor y.desc = some sig → argsL.length = sig.parameters.length)
    (hst : st = argsL.reverse ++ .ref a :: rest) (has : (Value.ref a :: argsL).toArray = as') (W : Nat) (hW : (rest.map fun v => v.category).sum = W) (hd : decode c.code pc = .ok (.invokespecial index, 3))
    (hfr : rm.frames + 1 ≤ R.frames) (hlo : W + (maxL + 11) + rm.locals ≤ R.locals) (hce : cells + rm.cells ≤ R.cells) (hsl : slots + rm.slots ≤ R.slots)
    (K : ∀ v T' L', Stand p l e R (s.setVm T'.vm) m args below meth c T' (locs ++ L') (cells + rm.cells) (slots + rm.slots) → Q' v T'.heap L' → Z.Warmed39 (s.setVm T'.vm).vm → (s.setVm T'.vm).vm.findClass own = some m.cls → s.Since T'.vm T'.heap.size → T'.heap.size ≤ T'.heap.size → ownFin p e below F Q (T'.setTop (mkF m (pc + 3) Ls (v.toList ++ rest)))) :
    ownFin p e below F Q (T.setTop (mkF m pc Ls st)) := by
  obtain ⟨v, _, ⟨T2, L2, k2, n2⟩, -, X2, hSi, -, ⟨Lc2, hQ2, l2, y2, z2⟩, st2⟩ := X.specialBackS hx (y := y) hy1 hown (mvT hZ w1) (mvT hZ w2) (mvT hZ w4) hy (ownBackI (W := W) hM hZ hI w4 w3 hfr hlo) (g := mkF m pc Ls st) rfl hsz (Steps.refl _) (a := a) (argsL := argsL) (rest := rest) hlen hst (by show 2 * 0 + _ ≤ _; omega) hd (fun _ _ => ⟨has, eT, hce, hsl⟩)
  dsimp only [Pt.U, Pt.locs, Pt.cells, Pt.slots] at X2 l2 y2 z2 st2 hQ2 hSi
  subst l2 y2 z2
  exact ownVia (fun _ k => st2.trans k) (K v T2 Lc2 X2 hQ2 (State.Warmed39.trans hZ hSi.1) (by rw [show (s.setVm T2.vm).vm = T2.vm from rfl, hSi.1.alike.findClass]; exact hown) hSi (Nat.le_refl _))
theorem ownCallSI {own : String} {index : Nat} {y : MethodName} {bytes : ByteArray} {maxL : Nat} {ret : Option FieldType} {rm : Room} {as' : Array Value} {Q' : Option Value → Heap → List Loc → Prop}
    (X : Stand p l e R s m args below meth c T locs cells slots) (hx : p.tables.exec = Jvm.exec) (hZ : Z.Warmed39 s.vm) (hI : IB Z s.vm []) (hown : s.vm.findClass own = some m.cls)
    (w1 : (Jvm.Cond.methodLink own index y).before a0 Z = true) (w2 : (Jvm.Cond.static y).before a0 Z = true) (w3 : (Jvm.Cond.initialized y.cls).before a0 Z = true) (w4 : (Jvm.Cond.code y bytes maxL ret).before a0 Z = true)
    (hy : y.cls ≠ "java/lang/invoke/MethodHandle" ∧ y.cls ≠ "java/lang/invoke/VarHandle") (eT : T.heap = h) (hM : ownMetI l Z y bytes maxL ret [] rm as' h Q')
    {pc : Nat} {Ls : Array Slot} {st : List Value} (hsz : Ls.size = c.maxLocals) (argsL rest : List Value) (hlen : ∀ sig, parseMethodDescriptor y.desc = some sig → argsL.length = sig.parameters.length)
    (hst : st = argsL.reverse ++ rest) (has : argsL.toArray = as') (W : Nat) (hW : (rest.map fun v => v.category).sum = W) (hd : decode c.code pc = .ok (.invokestatic index, 3))
    (hfr : rm.frames + 1 ≤ R.frames) (hlo : W + (maxL + 11) + rm.locals ≤ R.locals) (hce : cells + rm.cells ≤ R.cells) (hsl : slots + rm.slots ≤ R.slots)
    (K : ∀ v T' L', Stand p l e R (s.setVm T'.vm) m args below meth c T' (locs ++ L') (cells + rm.cells) (slots + rm.slots) → Q' v T'.heap L' → Z.Warmed39 (s.setVm T'.vm).vm → (s.setVm T'.vm).vm.findClass own = some m.cls → s.Since T'.vm T'.heap.size → T'.heap.size ≤ T'.heap.size → ownFin p e below F Q (T'.setTop (mkF m (pc + 3) Ls (v.toList ++ rest)))) :
    ownFin p e below F Q (T.setTop (mkF m pc Ls st)) := by
  obtain ⟨v, _, ⟨T2, L2, k2, n2⟩, -, X2, hSi, -, ⟨Lc2, hQ2, l2, y2, z2⟩, st2⟩ := callSS X hx (y := y) hown (mvT hZ w1) (mvT hZ w2) (mvT hZ w3) (mvT hZ w4) hy (ownBackI (W := W) hM hZ hI w4 w3 hfr hlo) (g := mkF m pc Ls st) rfl hsz (argsL := argsL) (rest := rest) hlen hst (by show 2 * 0 + _ ≤ _; omega) hd (fun _ _ => ⟨has, eT, hce, hsl⟩)
  dsimp only [Pt.U, Pt.locs, Pt.cells, Pt.slots] at X2 l2 y2 z2 st2 hQ2 hSi
  subst l2 y2 z2
  exact ownVia (fun _ k => st2.trans k) (K v T2 Lc2 X2 hQ2 (State.Warmed39.trans hZ hSi.1) (by rw [show (s.setVm T2.vm).vm = T2.vm from rfl, hSi.1.alike.findClass]; exact hown) hSi (Nat.le_refl _))
theorem ownCastore {a : Addr} {k : ClassId} {z j x : Int32} {vs : List Value} {dv : Value} {n0 : Nat} (X : Stand p l e R s m args below meth c T locs cells slots) (hx : p.tables.exec = Jvm.exec) (hZ : Z.Warmed39 s.vm) (eT : T.heap = h) (A : Arv Z h a k .char z vs dv) (hj : ¬ j < 0 ∧ j < z) (i : Nat) (hi : j.toNatClampNeg = i) (hl : i < vs.length) (N : Fr n0 locs) (ge : n0 ≤ a) {pc : Nat} {Ls : Array Slot} {rest : List Value} (hd : decode c.code pc = .ok (.castore, 1))
    (K : ∀ T' h' L', Stand p l e R s m args below meth c T' L' cells slots → T'.heap = h' → Fr n0 L' → Wr h h' a i (.int (nar .char x)) → Arv Z h' a k .char z (vs.set i (.int (nar .char x))) dv → ownFin p e below F Q (T'.setTop (mkF m (pc + 1) Ls rest))) :
    ownFin p e below F Q (T.setTop (mkF m pc Ls (.int x :: .int j :: .ref a :: rest))) := by
  obtain ⟨cl, Ar, q1, Sz, Nz, H, G⟩ := A
  obtain ⟨T', h', X', e', W, st⟩ := stC X hx hZ eT Ar (j := j) (x := x) (inb_of Sz hj) (g := mkF m pc Ls (.int x :: .int j :: .ref a :: rest)) rfl rfl hd
  have N' := Fr.snoc X' N ge
  have A' := Arv.set Ar q1 Sz Nz H G (fits_nar_char x) W i hi hl
  rw [hi] at W
  exact ownVia st (K T' h' _ X' e' N' W A')
theorem ownCaload {a : Addr} {k : ClassId} {z j : Int32} {vs : List Value} {dv v : Value} (X : Stand p l e R s m args below meth c T locs cells slots) (hx : p.tables.exec = Jvm.exec) (hZ : Z.Warmed39 s.vm) (eT : T.heap = h) (A : Arv Z h a k .char z vs dv) (hj : ¬ j < 0 ∧ j < z) (hv : vs.getD j.toNatClampNeg dv = v) {pc : Nat} {Ls : Array Slot} {rest : List Value} (hd : decode c.code pc = .ok (.caload, 1))
    (K : ownFin p e below F Q (T.setTop (mkF m (pc + 1) Ls (v :: rest)))) : ownFin p e below F Q (T.setTop (mkF m pc Ls (.int j :: .ref a :: rest))) := by
  obtain ⟨cl, Ar, -, Sz, Nz, H, -⟩ := A
  have hin := inb_of Sz hj
  exact ownVia (fun t k => X.caload hx (by rw [eT]; exact Ar.1) (State.isArrayOf_alike hZ.alike Ar.2.1) Ar.2.2 hin (H.at hin hv) (g := mkF m pc Ls (.int j :: .ref a :: rest)) rfl rfl hd t k) K
end OwnI

def own_la (q : Int64) : Int32 := if q < (-2147483647 : Int64) ∨ (2147483647 : Int64) < q then 0 else 1
theorem own_c1 : (-2147483647 : Int64).toInt = -2147483647 := by decide
theorem own_c2 : (2147483647 : Int64).toInt = 2147483647 := by decide
theorem own_c3 : (-2147483648 : Int32).toInt = -2147483648 := by decide
theorem own_la0 {q : Int64} (h : q.toInt < -2147483647 ∨ 2147483647 < q.toInt) : own_la q = 0 := by
  simp only [own_la, Int64.lt_iff_toInt_lt, own_c1, own_c2]
  exact if_pos h
theorem own_la1 {q : Int64} (h : ¬ (q.toInt < -2147483647 ∨ 2147483647 < q.toInt)) : own_la q = 1 := by
  simp only [own_la, Int64.lt_iff_toInt_lt, own_c1, own_c2]
  exact if_neg h
theorem own_la_lo {q : Int64} (h : q < (-2147483647 : Int64)) : own_la q = 0 := if_pos (Or.inl h)
theorem own_la_hi {q : Int64} (h : (2147483647 : Int64) < q) : own_la q = 0 := if_pos (Or.inr h)
theorem own_la_in {q : Int64} (h1 : ¬ q < (-2147483647 : Int64)) (h2 : ¬ (2147483647 : Int64) < q) : own_la q = 1 := if_neg (fun z => z.elim h1 h2)

theorem own_ch (q : Int32) : 0 ≤ ((q &&& (255 : Int32)).toUInt32.toUInt16.toUInt32.toInt32).toInt ∧ ((q &&& (255 : Int32)).toUInt32.toUInt16.toUInt32.toInt32).toInt ≤ 255 := by
  rw [i2c_mask]
  have a := c_mask q 255 8 (by decide) (by decide)
  omega
theorem own_chn {q : Int32} (h : 0 ≤ q.toInt ∧ q.toInt ≤ 255) : 0 ≤ (nar .char q).toInt ∧ (nar .char q).toInt ≤ 255 := by
  have e : nar .char q = q.toUInt32.toUInt16.toUInt32.toInt32 := rfl
  have a := c_i2c q
  rw [e]
  omega
theorem own_rem (q : Int64) : own_la (q - (q / (2147483648 : Int64)) * (2147483648 : Int64)) = 1 := by
  have a := c_lrem q 2147483648 2147483648 (by decide)
  apply own_la1
  by_cases h : 0 ≤ q.toInt
  · have b := a.1 h
    omega
  · have b := a.2 (by omega)
    omega
theorem own_len4 (q : Int32) : 0 ≤ (((q.toUInt32 >>> ((1 : Int32) &&& 31).toUInt32).toInt32) &&& (3 : Int32)).toInt ∧ (((q.toUInt32 >>> ((1 : Int32) &&& 31).toUInt32).toInt32) &&& (3 : Int32)).toInt ≤ 3 := by
  have a := c_mask ((q.toUInt32 >>> ((1 : Int32) &&& 31).toUInt32).toInt32) 3 2 (by decide) (by decide)
  omega
theorem own_r7 (q : Int32) : 0 ≤ ((q &&& (2147483647 : Int32)) % (7 : Int32)).toInt ∧ ((q &&& (2147483647 : Int32)) % (7 : Int32)).toInt ≤ 6 := by
  have a := c_mask q 2147483647 31 (by decide) (by decide)
  have b := (c_irem (q &&& (2147483647 : Int32)) 7 7 (by decide)).1 (by omega)
  omega
theorem own_cfl {p : Int32} : (((p - p).toUInt32 >>> ((31 : Int32) &&& 31).toUInt32).toInt32).toInt8.toInt32 = 0 := by
  rw [Int32.sub_self]
  decide
theorem own_all3 {cs : List Int32} (h : ∀ x ∈ cs, 0 ≤ x.toInt ∧ x.toInt ≤ 255) {i : Nat} (hi : i < cs.length) : 0 ≤ (cs.getD i 0).toInt ∧ (cs.getD i 0).toInt ≤ 255 := by
  rw [List.getD_eq_getElem?_getD, List.getElem?_eq_getElem hi]
  exact h _ (List.getElem_mem hi)
theorem d2_0 : decode jdk_43_method_3_code 0 = .ok (.iload_n 0, 1) := by decide +kernel
theorem d2_1 : decode jdk_43_method_3_code 1 = .ok (.sipush 255, 3) := by decide +kernel
theorem d2_4 : decode jdk_43_method_3_code 4 = .ok (.if_icmp .gt 7, 3) := by decide +kernel
theorem d2_7 : decode jdk_43_method_3_code 7 = .ok (.iconst 1, 1) := by decide +kernel
theorem d2_8 : decode jdk_43_method_3_code 8 = .ok (.goto 4, 3) := by decide +kernel
theorem d2_11 : decode jdk_43_method_3_code 11 = .ok (.iconst 0, 1) := by decide +kernel
theorem d2_12 : decode jdk_43_method_3_code 12 = .ok (.ireturn, 1) := by decide +kernel
theorem own_pn0 : plainName "java/lang/StringLatin1" = true := by first | (simp [plainName, overriddenIn]; done) | decide +kernel
theorem own_ef1 (m : MethodId) (p1 : Int32) : entryFrame m #[(.int p1)] 1 = mkF m 0 #[.val (.int p1)] [] := by first | (simp [entryFrame, mkF, argsToLocals, Value.category]; done) | rfl
def Q_own_can (Z : State) (p1 : Int32) (h0 : Heap) (n0 : Nat)  : Option Value → Heap → List Loc → Prop := fun v h L => v = some (.int 1) ∧ Fr n0 L ∧ h = h0
set_option maxRecDepth 65536 in
set_option maxHeartbeats 40000000 in
theorem own_can (l : Launch) (Z : State) (a0 : Array Value) (hw : ∀ d ∈ tables_1, d.before a0 Z = true)  (p1 : Int32) (h0 : Heap) (n0 : Nat)  (Z0 : n0 ≤ h0.size) (hp : p1.toInt ≤ 255) :
    ownMet l Z (⟨"java/lang/StringLatin1", "canEncode", "(C)Z"⟩ : MethodName) jdk_43_method_3_code 1 (some .boolean) [] ({ frames := 0, cells := 0, slots := 0, locals := 0 } : Room) #[(.int p1)] h0 (Q_own_can Z p1 h0 n0 ) := by
  refine ownBody (plainFor_of_name own_pn0) ?_
  intro p e s m below meth c T0 hx hby hml hret hlk hZ hown hnm X0 e0
  have N0 : Fr n0 [] := Fr.nil n0
  refine ownVia (fun _ k => castTop (own_ef1 m p1) k) ?_
  show ownFin _ _ _ _ _ (T0.setTop (mkF m 0 #[.val (.int p1)] []))
  refine ownVia (fun _ k => XS.iloadN X0.here hx rfl (hb hby d2_0) rfl k) ?_
  show ownFin _ _ _ _ _ (T0.setTop (mkF m 1 #[.val (.int p1)] [(.int p1)]))
  refine ownVia (fun _ k => XS.sipush X0.here hx rfl (hb hby d2_1) k) ?_
  show ownFin _ _ _ _ _ (T0.setTop (mkF m 4 #[.val (.int p1)] [(.int (255 : Int32)), (.int p1)]))
  refine ownVia (fun _ k => XS.icmpNo X0.here hx rfl (hb hby d2_4) rfl (flt (own_nlt (by decide : (255 : Int32).toInt = 255) rfl hp)).2.2.1 k) ?_
  show ownFin _ _ _ _ _ (T0.setTop (mkF m 7 #[.val (.int p1)] []))
  refine ownVia (fun _ k => XS.iconst X0.here hx rfl (hb hby d2_7) k) ?_
  show ownFin _ _ _ _ _ (T0.setTop (mkF m 8 #[.val (.int p1)] [(.int (1 : Int32))]))
  refine ownVia (fun _ k => XS.goto X0.here hx rfl (pc0 := 8) (pc' := 12) rfl (hb hby d2_8) (by decide) (by decide) k) ?_
  show ownFin _ _ _ _ _ (T0.setTop (mkF m 12 #[.val (.int p1)] [(.int (1 : Int32))]))
  refine ownRetZ X0 hx hlk hret (hb hby d2_12) (by decide) (by decide) (Or.inr rfl) ?_
  show (Q_own_can Z p1 h0 n0 ) (some (.int (1 : Int32))) T0.heap _
  rw [e0]
  exact ⟨rfl, N0, rfl⟩
theorem d3_0 : decode jdk_43_method_46_code 0 = .ok (.iconst 1, 1) := by decide +kernel
theorem d3_1 : decode jdk_43_method_46_code 1 = .ok (.newarray .byte, 2) := by decide +kernel
theorem d3_3 : decode jdk_43_method_46_code 3 = .ok (.dup, 1) := by decide +kernel
theorem d3_4 : decode jdk_43_method_46_code 4 = .ok (.iconst 0, 1) := by decide +kernel
theorem d3_5 : decode jdk_43_method_46_code 5 = .ok (.iload_n 0, 1) := by decide +kernel
theorem d3_6 : decode jdk_43_method_46_code 6 = .ok (.i2b, 1) := by decide +kernel
theorem d3_7 : decode jdk_43_method_46_code 7 = .ok (.bastore, 1) := by decide +kernel
theorem d3_8 : decode jdk_43_method_46_code 8 = .ok (.areturn, 1) := by decide +kernel
theorem own_ef2 (m : MethodId) (p1 : Int32) : entryFrame m #[(.int p1)] 1 = mkF m 0 #[.val (.int p1)] [] := by first | (simp [entryFrame, mkF, argsToLocals, Value.category]; done) | rfl
def Q_own_tob (Z : State) (p1 : Int32) (h0 : Heap) (n0 : Nat)  : Option Value → Heap → List Loc → Prop := fun v h L => ∃ b, v = some (.ref b) ∧ Fr n0 L ∧ Keep h0 h [] ∧ h0.size ≤ b ∧ Exa Z h b "[B"
set_option maxRecDepth 65536 in
set_option maxHeartbeats 40000000 in
theorem own_tob (l : Launch) (Z : State) (a0 : Array Value) (hw : ∀ d ∈ tables_1, d.before a0 Z = true)  (p1 : Int32) (h0 : Heap) (n0 : Nat)  (Z0 : n0 ≤ h0.size)  :
    ownMet l Z (⟨"java/lang/StringLatin1", "toBytes", "(C)[B"⟩ : MethodName) jdk_43_method_46_code 1 (some (.array .byte)) [] ({ frames := 0, cells := 1, slots := 1, locals := 0 } : Room) #[(.int p1)] h0 (Q_own_tob Z p1 h0 n0 ) := by
  refine ownBody (plainFor_of_name own_pn0) ?_
  intro p e s m below meth c T0 hx hby hml hret hlk hZ hown hnm X0 e0
  have N0 : Fr n0 [] := Fr.nil n0
  refine ownVia (fun _ k => castTop (own_ef2 m p1) k) ?_
  show ownFin _ _ _ _ _ (T0.setTop (mkF m 0 #[.val (.int p1)] []))
  have K0 : Keep h0 h0 [] := Keep.refl _ _
  refine ownVia (fun _ k => XS.iconst X0.here hx rfl (hb hby d3_0) k) ?_
  show ownFin _ _ _ _ _ (T0.setTop (mkF m 1 #[.val (.int p1)] [(.int (1 : Int32))]))
  refine ownNewP X0 hx hZ (hw _ (List.mem_of_getElem? (i := 14) rfl)) e0 "[B" (by decide) (by decide) (1) (by decide) (1) (by decide) (by decide) (by decide) (by decide) (hb hby d3_1) ?_
  intro T3 h3 k_b1 b1 g3 X3 e3 E3 A_b1 E_b1
  have ge_b1 : n0 ≤ b1 := Nat.le_trans Z0 (Nat.le_of_eq g3.symm)
  have sz_b1 : h0.size ≤ b1 := Nat.le_trans K0.1 (Nat.le_of_eq g3.symm)
  have K0 := K0.ext E3
  have Z0 := own_sz Z0 E3
  have A_b1 : Arv Z h3 b1 k_b1 .byte (1 : Int32) [(.int (0 : Int32))] (.int (0 : Int32)) := A_b1
  show ownFin _ _ _ _ _ (T3.setTop (mkF m 3 #[.val (.int p1)] [(.ref b1)]))
  refine ownVia (fun _ k => XS.dup X3.here hx rfl (hb hby d3_3) rfl rfl k) ?_
  show ownFin _ _ _ _ _ (T3.setTop (mkF m 4 #[.val (.int p1)] [(.ref b1), (.ref b1)]))
  refine ownVia (fun _ k => XS.iconst X3.here hx rfl (hb hby d3_4) k) ?_
  show ownFin _ _ _ _ _ (T3.setTop (mkF m 5 #[.val (.int p1)] [(.int (0 : Int32)), (.ref b1), (.ref b1)]))
  refine ownVia (fun _ k => XS.iloadN X3.here hx rfl (hb hby d3_5) rfl k) ?_
  show ownFin _ _ _ _ _ (T3.setTop (mkF m 6 #[.val (.int p1)] [(.int p1), (.int (0 : Int32)), (.ref b1), (.ref b1)]))
  refine ownVia (fun _ k => XS.i2b X3.here hx rfl (hb hby d3_6) rfl k) ?_
  show ownFin _ _ _ _ _ (T3.setTop (mkF m 7 #[.val (.int p1)] [(.int (p1.toInt8.toInt32)), (.int (0 : Int32)), (.ref b1), (.ref b1)]))
  refine ownBastore X3 hx hZ e3 A_b1 ⟨by decide, by decide⟩ (0) (by decide) (Nat.le_of_ble_eq_true rfl) N0 ge_b1 (hb hby d3_7) ?_
  intro T4 h4 L4 X4 e4 N4 W4 A_b1
  have E_b1 := E_b1.wr W4
  have K0 := K0.wr W4 (Or.inr sz_b1)
  have Z0 := own_szW Z0 W4
  have A_b1 : Arv Z h4 b1 k_b1 .byte (1 : Int32) [(.int (nar .byte (p1.toInt8.toInt32)))] (.int (0 : Int32)) := A_b1
  show ownFin _ _ _ _ _ (T4.setTop (mkF m 8 #[.val (.int p1)] [(.ref b1)]))
  refine ownRetA X4 hx hlk (ty := (.array .byte)) hret rfl (hb hby d3_8) (by decide) (by decide) ?_
  show (Q_own_tob Z p1 h0 n0 ) (some (.ref b1)) T4.heap _
  rw [e4]
  exact ⟨b1, rfl, N4, K0, sz_b1, E_b1⟩
theorem d4_0 : decode jdk_42_method_151_code 0 = .ok (.aload_n 0, 1) := by decide +kernel
theorem d4_1 : decode jdk_42_method_151_code 1 = .ok (.invokespecial 1, 3) := by decide +kernel
theorem d4_4 : decode jdk_42_method_151_code 4 = .ok (.aload_n 0, 1) := by decide +kernel
theorem d4_5 : decode jdk_42_method_151_code 5 = .ok (.aload_n 1, 1) := by decide +kernel
theorem d4_6 : decode jdk_42_method_151_code 6 = .ok (.putfield 9, 3) := by decide +kernel
theorem d4_9 : decode jdk_42_method_151_code 9 = .ok (.aload_n 0, 1) := by decide +kernel
theorem d4_10 : decode jdk_42_method_151_code 10 = .ok (.iload_n 2, 1) := by decide +kernel
theorem d4_11 : decode jdk_42_method_151_code 11 = .ok (.putfield 15, 3) := by decide +kernel
theorem d4_14 : decode jdk_42_method_151_code 14 = .ok (.return_, 1) := by decide +kernel
theorem own_pn1 : plainName "java/lang/String" = true := by first | (simp [plainName, overriddenIn]; done) | decide +kernel
theorem own_ef5 (m : MethodId) (a1 : Addr) (a2 : Addr) : entryFrame m #[(.ref a1), (.ref a2), (.int (0 : Int32))] 3 = mkF m 0 #[.val (.ref a1), .val (.ref a2), .val (.int (0 : Int32))] [] := by first | (simp [entryFrame, mkF, argsToLocals, Value.category]; done) | rfl
def Q_own_sb (Z : State) (a1 : Addr) (a2 : Addr) (h0 : Heap) (n0 : Nat)  : Option Value → Heap → List Loc → Prop := fun v h L => v = none ∧ Fr n0 L ∧ Keep h0 h [a1]
set_option maxRecDepth 65536 in
set_option maxHeartbeats 40000000 in
theorem own_sb (l : Launch) (Z : State) (a0 : Array Value) (hw : ∀ d ∈ tables_1, d.before a0 Z = true)  (a1 : Addr) (a2 : Addr) (h0 : Heap) (n0 : Nat)  (Z0 : n0 ≤ h0.size) (F_a1_value : Fld Z h0 a1 "java/lang/String" "value" "[B" .null) (F_a1_coder : Fld Z h0 a1 "java/lang/String" "coder" "B" (.int (0 : Int32))) (E_a1 : Exa Z h0 a1 "java/lang/String") (ge_a1 : n0 ≤ a1) :
    ownMet l Z (⟨"java/lang/String", "<init>", "([BB)V"⟩ : MethodName) jdk_42_method_151_code 3 none [] ({ frames := 1, cells := 0, slots := 0, locals := 12 } : Room) #[(.ref a1), (.ref a2), (.int (0 : Int32))] h0 (Q_own_sb Z a1 a2 h0 n0 ) := by
  refine ownBody (plainFor_of_name own_pn1) ?_
  intro p e s m below meth c T0 hx hby hml hret hlk hZ hown hnm X0 e0
  have N0 : Fr n0 [] := Fr.nil n0
  refine ownVia (fun _ k => castTop (own_ef5 m a1 a2) k) ?_
  show ownFin _ _ _ _ _ (T0.setTop (mkF m 0 #[.val (.ref a1), .val (.ref a2), .val (.int (0 : Int32))] []))
  have K0 : Keep h0 h0 [a1] := Keep.refl _ _
  refine ownVia (fun _ k => XS.aloadN X0.here hx rfl (hb hby d4_0) rfl rfl k) ?_
  show ownFin _ _ _ _ _ (T0.setTop (mkF m 1 #[.val (.ref a1), .val (.ref a2), .val (.int (0 : Int32))] [(.ref a1)]))
  obtain ⟨T6, X6, e6, st6⟩ := initO X0 hx hZ hown (hw _ (List.mem_of_getElem? (i := 19) rfl)) (hw _ (List.mem_of_getElem? (i := 20) rfl)) (hw _ (List.mem_of_getElem? (i := 21) rfl)) e0 (g := (mkF m 1 #[.val (.ref a1), .val (.ref a2), .val (.int (0 : Int32))] [(.ref a1)])) rfl (by rw [hml]; rfl) rfl (hb hby d4_1) (by decide) (W := 0) (by show 2 * 0 + _ ≤ _; exact Nat.le_of_eq rfl) (by decide)
  refine ownVia st6 ?_
  show ownFin _ _ _ _ _ (T6.setTop (mkF m 4 #[.val (.ref a1), .val (.ref a2), .val (.int (0 : Int32))] []))
  refine ownVia (fun _ k => XS.aloadN X6.here hx rfl (hb hby d4_4) rfl rfl k) ?_
  show ownFin _ _ _ _ _ (T6.setTop (mkF m 5 #[.val (.ref a1), .val (.ref a2), .val (.int (0 : Int32))] [(.ref a1)]))
  refine ownVia (fun _ k => XS.aloadN X6.here hx rfl (hb hby d4_5) rfl rfl k) ?_
  show ownFin _ _ _ _ _ (T6.setTop (mkF m 6 #[.val (.ref a1), .val (.ref a2), .val (.int (0 : Int32))] [(.ref a2), (.ref a1)]))
  obtain ⟨T7, h7, X7, e7, W7, st7⟩ := putF X6 hx hZ hown (host := "") (Or.inl (hw _ (List.mem_of_getElem? (i := 22) rfl))) Via.refl e6 F_a1_value E_a1 (Or.inr ⟨(hw _ (List.mem_of_getElem? (i := 23) rfl)), rfl, hnm⟩) (hw _ (List.mem_of_getElem? (i := 10) rfl)) (ty := (.array .byte)) (by decide) rfl rfl (g := (mkF m 6 #[.val (.ref a1), .val (.ref a2), .val (.int (0 : Int32))] [(.ref a2), (.ref a1)])) rfl rfl (hb hby d4_6)
  have N7 := Fr.snoc X7 N0 ge_a1
  have F_a1_value := F_a1_value.same W7
  have F_a1_coder := F_a1_coder.other W7 (Or.inr (slot_ne (Or.inr (hw _ (List.mem_of_getElem? (i := 25) rfl))) (Or.inr (hw _ (List.mem_of_getElem? (i := 23) rfl))) (by decide) (t := .byte) (t' := (.array .byte)) (by decide) (by decide)))
  have E_a1 := E_a1.wr W7
  have K0 := K0.wr W7 (Or.inl (List.mem_of_getElem? (i := 0) rfl))
  have Z0 := own_szW Z0 W7
  refine ownVia st7 ?_
  show ownFin _ _ _ _ _ (T7.setTop (mkF m 9 #[.val (.ref a1), .val (.ref a2), .val (.int (0 : Int32))] []))
  refine ownVia (fun _ k => XS.aloadN X7.here hx rfl (hb hby d4_9) rfl rfl k) ?_
  show ownFin _ _ _ _ _ (T7.setTop (mkF m 10 #[.val (.ref a1), .val (.ref a2), .val (.int (0 : Int32))] [(.ref a1)]))
  refine ownVia (fun _ k => XS.iloadN X7.here hx rfl (hb hby d4_10) rfl k) ?_
  show ownFin _ _ _ _ _ (T7.setTop (mkF m 11 #[.val (.ref a1), .val (.ref a2), .val (.int (0 : Int32))] [(.int (0 : Int32)), (.ref a1)]))
  obtain ⟨T8, h8, X8, e8, W8, st8⟩ := putFN X7 hx hZ hown (hw _ (List.mem_of_getElem? (i := 24) rfl)) Via.refl e7 F_a1_coder E_a1 (Or.inr ⟨(hw _ (List.mem_of_getElem? (i := 25) rfl)), rfl, hnm⟩) (hw _ (List.mem_of_getElem? (i := 10) rfl)) (ty := .byte) (v' := (.int (0 : Int32))) (by decide) rfl rfl (g := (mkF m 11 #[.val (.ref a1), .val (.ref a2), .val (.int (0 : Int32))] [(.int (0 : Int32)), (.ref a1)])) rfl rfl (hb hby d4_11)
  have N8 := Fr.snoc X8 N7 ge_a1
  have F_a1_coder := F_a1_coder.same W8
  have F_a1_value := F_a1_value.other W8 (Or.inr (slot_ne (Or.inr (hw _ (List.mem_of_getElem? (i := 23) rfl))) (Or.inr (hw _ (List.mem_of_getElem? (i := 25) rfl))) (by decide) (t := (.array .byte)) (t' := .byte) (by decide) (by decide)))
  have E_a1 := E_a1.wr W8
  have K0 := K0.wr W8 (Or.inl (List.mem_of_getElem? (i := 0) rfl))
  have Z0 := own_szW Z0 W8
  refine ownVia st8 ?_
  show ownFin _ _ _ _ _ (T8.setTop (mkF m 14 #[.val (.ref a1), .val (.ref a2), .val (.int (0 : Int32))] []))
  refine ownRetV X8 hx hlk hret (hb hby d4_14) (by decide) (by decide) ?_
  show (Q_own_sb Z a1 a2 h0 n0 ) none T8.heap _
  rw [e8]
  exact ⟨rfl, N8, K0⟩
theorem d1_0 : decode jdk_42_method_139_code 0 = .ok (.getstatic 38, 3) := by decide +kernel
theorem d1_3 : decode jdk_42_method_139_code 3 = .ok (.ifCond .eq 23, 3) := by decide +kernel
theorem d1_6 : decode jdk_42_method_139_code 6 = .ok (.iload_n 0, 1) := by decide +kernel
theorem d1_7 : decode jdk_42_method_139_code 7 = .ok (.invokestatic 1015, 3) := by decide +kernel
theorem d1_10 : decode jdk_42_method_139_code 10 = .ok (.ifCond .eq 16, 3) := by decide +kernel
theorem d1_13 : decode jdk_42_method_139_code 13 = .ok (.new 10, 3) := by decide +kernel
theorem d1_16 : decode jdk_42_method_139_code 16 = .ok (.dup, 1) := by decide +kernel
theorem d1_17 : decode jdk_42_method_139_code 17 = .ok (.iload_n 0, 1) := by decide +kernel
theorem d1_18 : decode jdk_42_method_139_code 18 = .ok (.invokestatic 1018, 3) := by decide +kernel
theorem d1_21 : decode jdk_42_method_139_code 21 = .ok (.iconst 0, 1) := by decide +kernel
theorem d1_22 : decode jdk_42_method_139_code 22 = .ok (.invokespecial 209, 3) := by decide +kernel
theorem d1_25 : decode jdk_42_method_139_code 25 = .ok (.areturn, 1) := by decide +kernel
theorem d1_26 : decode jdk_42_method_139_code 26 = .ok (.new 10, 3) := by decide +kernel
theorem d1_29 : decode jdk_42_method_139_code 29 = .ok (.dup, 1) := by decide +kernel
theorem d1_30 : decode jdk_42_method_139_code 30 = .ok (.iload_n 0, 1) := by decide +kernel
theorem d1_31 : decode jdk_42_method_139_code 31 = .ok (.invokestatic 1021, 3) := by decide +kernel
theorem d1_34 : decode jdk_42_method_139_code 34 = .ok (.iconst 1, 1) := by decide +kernel
theorem d1_35 : decode jdk_42_method_139_code 35 = .ok (.invokespecial 209, 3) := by decide +kernel
theorem d1_38 : decode jdk_42_method_139_code 38 = .ok (.areturn, 1) := by decide +kernel
theorem own_ef9 (m : MethodId) (p1 : Int32) : entryFrame m #[(.int p1)] 1 = mkF m 0 #[.val (.int p1)] [] := by first | (simp [entryFrame, mkF, argsToLocals, Value.category]; done) | rfl
def Q_own_vof (Z : State) (p1 : Int32) (h0 : Heap) (n0 : Nat) (cs0 : Int32) : Option Value → Heap → List Loc → Prop := fun v h L => ∃ b, v = some (.ref b) ∧ Fr n0 L ∧ Keep h0 h [] ∧ h0.size ≤ b
theorem own_pd0 : parseMethodDescriptor "(C)Z" = some ⟨[.char], some .boolean⟩ := by decide +kernel
theorem own_pd1 : parseMethodDescriptor "(C)[B" = some ⟨[.char], some (.array .byte)⟩ := by decide +kernel
theorem own_pd2 : parseMethodDescriptor "([BB)V" = some ⟨[(.array .byte), .byte], none⟩ := by decide +kernel
set_option maxRecDepth 65536 in
set_option maxHeartbeats 40000000 in
theorem own_vof (l : Launch) (Z : State) (a0 : Array Value) (hw : ∀ d ∈ tables_1, d.before a0 Z = true)  (p1 : Int32) (h0 : Heap) (n0 : Nat) (cs0 : Int32) (Z0 : n0 ≤ h0.size) (O : Old Z n0 h0) (S_c : Sta Z Z.heap "java/lang/String" "COMPACT_STRINGS" "Z" (.int cs0)) (hcs : ¬ cs0 = (0 : Int32)) (hp : p1.toInt ≤ 255) :
    ownMet l Z (⟨"java/lang/String", "valueOf", "(C)Ljava/lang/String;"⟩ : MethodName) jdk_42_method_139_code 1 (some (.object "java/lang/String")) [] ({ frames := 2, cells := 2, slots := 5, locals := 40 } : Room) #[(.int p1)] h0 (Q_own_vof Z p1 h0 n0 cs0) := by
  refine ownBody (plainFor_of_name own_pn1) ?_
  intro p e s m below meth c T0 hx hby hml hret hlk hZ hown hnm X0 e0
  have N0 : Fr n0 [] := Fr.nil n0
  refine ownVia (fun _ k => castTop (own_ef9 m p1) k) ?_
  show ownFin _ _ _ _ _ (T0.setTop (mkF m 0 #[.val (.int p1)] []))
  have K0 : Keep h0 h0 [] := Keep.refl _ _
  obtain ⟨T10, X10, e10, st10⟩ := getS2 X0 hx hZ hown (host := "") (Or.inl (hw _ (List.mem_of_getElem? (i := 4) rfl))) Via.refl e0 (S_c.ext O.2) (g := (mkF m 0 #[.val (.int p1)] [])) rfl (hb hby d1_0)
  refine ownVia st10 ?_
  show ownFin _ _ _ _ _ (T10.setTop (mkF m 3 #[.val (.int p1)] [(.int cs0)]))
  refine ownVia (fun _ k => XS.ifNo X10.here hx rfl (hb hby d1_3) rfl ((if0 _ _).trans (feq hcs).1) k) ?_
  show ownFin _ _ _ _ _ (T10.setTop (mkF m 6 #[.val (.int p1)] []))
  refine ownVia (fun _ k => XS.iloadN X10.here hx rfl (hb hby d1_6) rfl k) ?_
  show ownFin _ _ _ _ _ (T10.setTop (mkF m 7 #[.val (.int p1)] [(.int p1)]))
  refine ownCallS X10 hx hZ hown (hw _ (List.mem_of_getElem? (i := 5) rfl)) (hw _ (List.mem_of_getElem? (i := 6) rfl)) (hw _ (List.mem_of_getElem? (i := 7) rfl)) (hw _ (List.mem_of_getElem? (i := 8) rfl)) (by decide) e10 (own_can l Z a0 hw p1 h0 n0 Z0 hp) (by rw [hml]; rfl) [(.int p1)] [] (lenOf own_pd0 rfl) rfl rfl 0 rfl (hb hby d1_7) (by decide) (by decide) (by decide) (by decide) ?_
  intro v11 T11 L11 X11 hq11
  obtain ⟨rfl, N11q, eq11⟩ := hq11
  have N11 := Fr.app N0 N11q
  have e11 : T11.heap = h0 := eq11
  show ownFin _ _ _ _ _ (T11.setTop (mkF m 10 #[.val (.int p1)] [(.int (1 : Int32))]))
  refine ownVia (fun _ k => XS.ifNo X11.here hx rfl (hb hby d1_10) rfl ((if0 _ _).trans (feq (by decide)).1) k) ?_
  show ownFin _ _ _ _ _ (T11.setTop (mkF m 13 #[.val (.int p1)] []))
  obtain ⟨T12, h12, X12, e12, E12, A12, D12, -, st12⟩ := newO X11 hx hZ hown (hw _ (List.mem_of_getElem? (i := 9) rfl)) (hw _ (List.mem_of_getElem? (i := 10) rfl)) (hw _ (List.mem_of_getElem? (i := 2) rfl)) e11 (g := (mkF m 13 #[.val (.int p1)] [])) rfl (hb hby d1_13) (by decide) (by decide)
  obtain ⟨b1, g12⟩ : ∃ z, z = h0.size := ⟨_, rfl⟩
  rw [← g12] at A12 D12 st12
  have ge_b1 : n0 ≤ b1 := Nat.le_trans Z0 (Nat.le_of_eq g12.symm)
  have sz_b1 : h0.size ≤ b1 := Nat.le_trans K0.1 (Nat.le_of_eq g12.symm)
  have K0 := K0.ext E12
  have O := O.ext E12
  have Z0 := own_sz Z0 E12
  have E_b1 := A12
  have F_b1_value : Fld Z h12 b1 "java/lang/String" "value" "[B" .null := D12 (Or.inr (hw _ (List.mem_of_getElem? (i := 23) rfl))) (ty := (.array .byte)) (by decide)
  have F_b1_coder : Fld Z h12 b1 "java/lang/String" "coder" "B" (.int (0 : Int32)) := D12 (Or.inr (hw _ (List.mem_of_getElem? (i := 25) rfl))) (ty := .byte) (by decide)
  refine ownVia st12 ?_
  show ownFin _ _ _ _ _ (T12.setTop (mkF m 16 #[.val (.int p1)] [(.ref b1)]))
  refine ownVia (fun _ k => XS.dup X12.here hx rfl (hb hby d1_16) rfl rfl k) ?_
  show ownFin _ _ _ _ _ (T12.setTop (mkF m 17 #[.val (.int p1)] [(.ref b1), (.ref b1)]))
  refine ownVia (fun _ k => XS.iloadN X12.here hx rfl (hb hby d1_17) rfl k) ?_
  show ownFin _ _ _ _ _ (T12.setTop (mkF m 18 #[.val (.int p1)] [(.int p1), (.ref b1), (.ref b1)]))
  refine ownCallS X12 hx hZ hown (hw _ (List.mem_of_getElem? (i := 11) rfl)) (hw _ (List.mem_of_getElem? (i := 12) rfl)) (hw _ (List.mem_of_getElem? (i := 7) rfl)) (hw _ (List.mem_of_getElem? (i := 13) rfl)) (by decide) e12 (own_tob l Z a0 hw p1 h12 n0 Z0) (by rw [hml]; rfl) [(.int p1)] [(.ref b1), (.ref b1)] (lenOf own_pd1 rfl) rfl rfl 2 rfl (hb hby d1_18) (by decide) (by decide) (by decide) (by decide) ?_
  intro v13 T13 L13 X13 hq13
  obtain ⟨b2, rfl, N13q, K13, sq13, E_b2⟩ := hq13
  have ne_b1_b2 : b1 ≠ b2 := Nat.ne_of_lt (Nat.lt_of_lt_of_le E_b1.lt sq13)
  have ge_b2 : n0 ≤ b2 := Nat.le_trans Z0 sq13
  have sz_b2 : h0.size ≤ b2 := Nat.le_trans K0.1 sq13
  have E_b1 := E_b1.keep K13
  have F_b1_value := F_b1_value.keep K13 nin0
  have F_b1_coder := F_b1_coder.keep K13 nin0
  have K0 := K0.trans K13 all0
  have Z0 := Nat.le_trans Z0 K13.1
  have O := O.keep K13 all0
  have N13 := Fr.app N11 N13q
  show ownFin _ _ _ _ _ (T13.setTop (mkF m 21 #[.val (.int p1)] [(.ref b2), (.ref b1), (.ref b1)]))
  refine ownVia (fun _ k => XS.iconst X13.here hx rfl (hb hby d1_21) k) ?_
  show ownFin _ _ _ _ _ (T13.setTop (mkF m 22 #[.val (.int p1)] [(.int (0 : Int32)), (.ref b2), (.ref b1), (.ref b1)]))
  refine ownCallN X13 hx hZ hown rfl (hw _ (List.mem_of_getElem? (i := 15) rfl)) (hw _ (List.mem_of_getElem? (i := 16) rfl)) (hw _ (List.mem_of_getElem? (i := 2) rfl)) (hw _ (List.mem_of_getElem? (i := 18) rfl)) (by decide) (rfl : T13.heap = T13.heap) (own_sb l Z a0 hw b1 b2 T13.heap n0 Z0 F_b1_value F_b1_coder E_b1 ge_b1) (by rw [hml]; rfl) b1 [(.ref b2), (.int (0 : Int32))] [(.ref b1)] (lenOf own_pd2 rfl) rfl rfl 1 rfl (hb hby d1_22) (by decide) (by decide) (by decide) (by decide) ?_
  intro v14 T14 L14 X14 hq14
  obtain ⟨rfl, N14q, K14⟩ := hq14
  have E_b1 := E_b1.keep K14
  have K0 := K0.trans K14 (allS (Or.inr sz_b1) all0)
  have Z0 := Nat.le_trans Z0 K14.1
  have O := O.keep K14 (allS ge_b1 all0)
  have N14 := Fr.app N13 N14q
  show ownFin _ _ _ _ _ (T14.setTop (mkF m 25 #[.val (.int p1)] [(.ref b1)]))
  refine ownRetA X14 hx hlk (ty := (.object "java/lang/String")) hret rfl (hb hby d1_25) (by decide) (by decide) ?_
  show (Q_own_vof Z p1 h0 n0 cs0) (some (.ref b1)) T14.heap _
  exact ⟨b1, rfl, N14, K0, sz_b1⟩
theorem d6_0 : decode method_2_code 0 = .ok (.iload_n 0, 1) := by decide +kernel
theorem d6_1 : decode method_2_code 1 = .ok (.ldc 7, 2) := by decide +kernel
theorem d6_3 : decode method_2_code 3 = .ok (.iand, 1) := by decide +kernel
theorem d6_4 : decode method_2_code 4 = .ok (.bipush 7, 2) := by decide +kernel
theorem d6_6 : decode method_2_code 6 = .ok (.irem, 1) := by decide +kernel
theorem d6_7 : decode method_2_code 7 = .ok (.istore_n 1, 1) := by decide +kernel
theorem d6_8 : decode method_2_code 8 = .ok (.iload_n 1, 1) := by decide +kernel
theorem d6_9 : decode method_2_code 9 = .ok (.ifCond .ne 7, 3) := by decide +kernel
theorem d6_12 : decode method_2_code 12 = .ok (.getstatic 8, 3) := by decide +kernel
theorem d6_15 : decode method_2_code 15 = .ok (.areturn, 1) := by decide +kernel
theorem d6_16 : decode method_2_code 16 = .ok (.iload_n 1, 1) := by decide +kernel
theorem d6_17 : decode method_2_code 17 = .ok (.iconst 1, 1) := by decide +kernel
theorem d6_18 : decode method_2_code 18 = .ok (.if_icmp .ne 7, 3) := by decide +kernel
theorem d6_21 : decode method_2_code 21 = .ok (.getstatic 14, 3) := by decide +kernel
theorem d6_24 : decode method_2_code 24 = .ok (.areturn, 1) := by decide +kernel
theorem d6_25 : decode method_2_code 25 = .ok (.iload_n 1, 1) := by decide +kernel
theorem d6_26 : decode method_2_code 26 = .ok (.iconst 2, 1) := by decide +kernel
theorem d6_27 : decode method_2_code 27 = .ok (.if_icmp .ne 7, 3) := by decide +kernel
theorem d6_30 : decode method_2_code 30 = .ok (.getstatic 17, 3) := by decide +kernel
theorem d6_33 : decode method_2_code 33 = .ok (.areturn, 1) := by decide +kernel
theorem d6_34 : decode method_2_code 34 = .ok (.iload_n 1, 1) := by decide +kernel
theorem d6_35 : decode method_2_code 35 = .ok (.iconst 3, 1) := by decide +kernel
theorem d6_36 : decode method_2_code 36 = .ok (.if_icmp .ne 7, 3) := by decide +kernel
theorem d6_39 : decode method_2_code 39 = .ok (.getstatic 20, 3) := by decide +kernel
theorem d6_42 : decode method_2_code 42 = .ok (.areturn, 1) := by decide +kernel
theorem d6_43 : decode method_2_code 43 = .ok (.iload_n 1, 1) := by decide +kernel
theorem d6_44 : decode method_2_code 44 = .ok (.iconst 4, 1) := by decide +kernel
theorem d6_45 : decode method_2_code 45 = .ok (.if_icmp .ne 7, 3) := by decide +kernel
theorem d6_48 : decode method_2_code 48 = .ok (.getstatic 23, 3) := by decide +kernel
theorem d6_51 : decode method_2_code 51 = .ok (.areturn, 1) := by decide +kernel
theorem d6_52 : decode method_2_code 52 = .ok (.iload_n 1, 1) := by decide +kernel
theorem d6_53 : decode method_2_code 53 = .ok (.iconst 5, 1) := by decide +kernel
theorem d6_54 : decode method_2_code 54 = .ok (.if_icmp .ne 7, 3) := by decide +kernel
theorem d6_57 : decode method_2_code 57 = .ok (.getstatic 26, 3) := by decide +kernel
theorem d6_60 : decode method_2_code 60 = .ok (.areturn, 1) := by decide +kernel
theorem d6_61 : decode method_2_code 61 = .ok (.getstatic 29, 3) := by decide +kernel
theorem d6_64 : decode method_2_code 64 = .ok (.areturn, 1) := by decide +kernel
theorem own_pn2 : plainName "com/example/tillbridge/tillbridge/channel/LineIsRefundPinLaw" = true := by first | (simp [plainName, overriddenIn]; done) | decide +kernel
theorem own_ef15 (m : MethodId) (p1 : Int32) : entryFrame m #[(.int p1)] 2 = mkF m 0 #[.val (.int p1), .unset] [] := by first | (simp [entryFrame, mkF, argsToLocals, Value.category]; done) | rfl
def Q_own_std (Z : State) (p1 : Int32) (h0 : Heap) (n0 : Nat)  : Option Value → Heap → List Loc → Prop := fun v h L => ∃ r, v = some (.ref r) ∧ Fr n0 L ∧ h = h0
set_option maxRecDepth 65536 in
set_option maxHeartbeats 40000000 in
theorem own_std (l : Launch) (Z : State) (a0 : Array Value) (hw : ∀ d ∈ tables_1, d.before a0 Z = true)  (p1 : Int32) (h0 : Heap) (n0 : Nat)  (Z0 : n0 ≤ h0.size) (k0 : ∃ a, Sta Z h0 "com/example/tillbridge/tillbridge/channel/Bill$Standing" "PAID" "Lcom/example/tillbridge/tillbridge/channel/Bill$Standing;" (.ref a)) (k1 : ∃ a, Sta Z h0 "com/example/tillbridge/tillbridge/channel/Bill$Standing" "REVERSED" "Lcom/example/tillbridge/tillbridge/channel/Bill$Standing;" (.ref a)) (k2 : ∃ a, Sta Z h0 "com/example/tillbridge/tillbridge/channel/Bill$Standing" "REFUNDING" "Lcom/example/tillbridge/tillbridge/channel/Bill$Standing;" (.ref a)) (k3 : ∃ a, Sta Z h0 "com/example/tillbridge/tillbridge/channel/Bill$Standing" "REFUNDED" "Lcom/example/tillbridge/tillbridge/channel/Bill$Standing;" (.ref a)) (k4 : ∃ a, Sta Z h0 "com/example/tillbridge/tillbridge/channel/Bill$Standing" "REFUND_FAILED" "Lcom/example/tillbridge/tillbridge/channel/Bill$Standing;" (.ref a)) (k5 : ∃ a, Sta Z h0 "com/example/tillbridge/tillbridge/channel/Bill$Standing" "REFUND_MANUAL" "Lcom/example/tillbridge/tillbridge/channel/Bill$Standing;" (.ref a)) (k6 : ∃ a, Sta Z h0 "com/example/tillbridge/tillbridge/channel/Bill$Standing" "OTHER" "Lcom/example/tillbridge/tillbridge/channel/Bill$Standing;" (.ref a)) :
    ownMet l Z (⟨"com/example/tillbridge/tillbridge/channel/LineIsRefundPinLaw", "standing", "(I)Lcom/example/tillbridge/tillbridge/channel/Bill$Standing;"⟩ : MethodName) method_2_code 2 (some (.object "com/example/tillbridge/tillbridge/channel/Bill$Standing")) [] ({ frames := 0, cells := 0, slots := 0, locals := 0 } : Room) #[(.int p1)] h0 (Q_own_std Z p1 h0 n0 ) := by
  refine ownBody (plainFor_of_name own_pn2) ?_
  intro p e s m below meth c T0 hx hby hml hret hlk hZ hown hnm X0 e0
  have N0 : Fr n0 [] := Fr.nil n0
  refine ownVia (fun _ k => castTop (own_ef15 m p1) k) ?_
  show ownFin _ _ _ _ _ (T0.setTop (mkF m 0 #[.val (.int p1), .unset] []))
  refine ownVia (fun _ k => XS.iloadN X0.here hx rfl (hb hby d6_0) rfl k) ?_
  show ownFin _ _ _ _ _ (T0.setTop (mkF m 1 #[.val (.int p1), .unset] [(.int p1)]))
  refine ownVia (fun _ k => X0.ldcInt hx hown (mvT hZ (hw _ (List.mem_of_getElem? (i := 30) rfl))) (g := (mkF m 1 #[.val (.int p1), .unset] [(.int p1)])) rfl (hb hby d6_1) _ k) ?_
  show ownFin _ _ _ _ _ (T0.setTop (mkF m 3 #[.val (.int p1), .unset] [(.int (2147483647 : Int32)), (.int p1)]))
  refine ownVia (fun _ k => XS.iand X0.here hx rfl (hb hby d6_3) rfl k) ?_
  show ownFin _ _ _ _ _ (T0.setTop (mkF m 4 #[.val (.int p1), .unset] [(.int (p1 &&& (2147483647 : Int32)))]))
  refine ownVia (fun _ k => XS.bipush X0.here hx rfl (hb hby d6_4) k) ?_
  show ownFin _ _ _ _ _ (T0.setTop (mkF m 6 #[.val (.int p1), .unset] [(.int (7 : Int32)), (.int (p1 &&& (2147483647 : Int32)))]))
  refine ownVia (fun _ k => iremM X0 hx rfl (hb hby d6_6) rfl (by decide) k) ?_
  show ownFin _ _ _ _ _ (T0.setTop (mkF m 7 #[.val (.int p1), .unset] [(.int ((p1 &&& (2147483647 : Int32)) % (7 : Int32)))]))
  refine ownVia (fun _ k => XS.istoreN X0.here hx rfl (hb hby d6_7) rfl (l' := #[.val (.int p1), .val (.int ((p1 &&& (2147483647 : Int32)) % (7 : Int32)))]) rfl k) ?_
  show ownFin _ _ _ _ _ (T0.setTop (mkF m 8 #[.val (.int p1), .val (.int ((p1 &&& (2147483647 : Int32)) % (7 : Int32)))] []))
  generalize h_iv : ((p1 &&& (2147483647 : Int32)) % (7 : Int32)) = iv
  show ownFin _ _ _ _ _ (T0.setTop (mkF m 8 #[.val (.int p1), .val (.int iv)] []))
  refine ownVia (fun _ k => XS.iloadN X0.here hx rfl (hb hby d6_8) rfl k) ?_
  show ownFin _ _ _ _ _ (T0.setTop (mkF m 9 #[.val (.int p1), .val (.int iv)] [(.int iv)]))
  by_cases hc16 : iv = (0 : Int32)
  case pos =>
    have hc16I : iv.toInt = 0 := (own_eqi rfl (by decide)).mp hc16
    refine ownVia (fun _ k => XS.ifNo X0.here hx rfl (hb hby d6_9) rfl ((if0 _ _).trans (teq hc16).2) k) ?_
    show ownFin _ _ _ _ _ (T0.setTop (mkF m 12 #[.val (.int p1), .val (.int iv)] []))
    obtain ⟨r, S_r⟩ := k0
    obtain ⟨T17, X17, e17, st17⟩ := getS2 X0 hx hZ hown (host := "") (Or.inl (hw _ (List.mem_of_getElem? (i := 99) rfl))) Via.refl e0 S_r (g := (mkF m 12 #[.val (.int p1), .val (.int iv)] [])) rfl (hb hby d6_12)
    refine ownVia st17 ?_
    show ownFin _ _ _ _ _ (T17.setTop (mkF m 15 #[.val (.int p1), .val (.int iv)] [(.ref r)]))
    refine ownRetA X17 hx hlk (ty := (.object "com/example/tillbridge/tillbridge/channel/Bill$Standing")) hret rfl (hb hby d6_15) (by decide) (by decide) ?_
    show (Q_own_std Z p1 h0 n0 ) (some (.ref r)) T17.heap _
    rw [e17]
    exact ⟨r, rfl, N0, rfl⟩
  case neg =>
    have hc16I : ¬ iv.toInt = 0 := fun q => hc16 ((own_eqi rfl (by decide)).mpr q)
    refine ownVia (fun _ k => XS.ifYes X0.here hx rfl (pc0 := 9) (pc' := 16) rfl (hb hby d6_9) rfl ((if0 _ _).trans (feq hc16).2) (by decide) (by decide) k) ?_
    show ownFin _ _ _ _ _ (T0.setTop (mkF m 16 #[.val (.int p1), .val (.int iv)] []))
    refine ownVia (fun _ k => XS.iloadN X0.here hx rfl (hb hby d6_16) rfl k) ?_
    show ownFin _ _ _ _ _ (T0.setTop (mkF m 17 #[.val (.int p1), .val (.int iv)] [(.int iv)]))
    refine ownVia (fun _ k => XS.iconst X0.here hx rfl (hb hby d6_17) k) ?_
    show ownFin _ _ _ _ _ (T0.setTop (mkF m 18 #[.val (.int p1), .val (.int iv)] [(.int (1 : Int32)), (.int iv)]))
    by_cases hc18 : iv = (1 : Int32)
    case pos =>
      have hc18I : iv.toInt = 1 := (own_eqi rfl (by decide)).mp hc18
      refine ownVia (fun _ k => XS.icmpNo X0.here hx rfl (hb hby d6_18) rfl (teq hc18).2 k) ?_
      show ownFin _ _ _ _ _ (T0.setTop (mkF m 21 #[.val (.int p1), .val (.int iv)] []))
      obtain ⟨r, S_r⟩ := k1
      obtain ⟨T19, X19, e19, st19⟩ := getS2 X0 hx hZ hown (host := "") (Or.inl (hw _ (List.mem_of_getElem? (i := 101) rfl))) Via.refl e0 S_r (g := (mkF m 21 #[.val (.int p1), .val (.int iv)] [])) rfl (hb hby d6_21)
      refine ownVia st19 ?_
      show ownFin _ _ _ _ _ (T19.setTop (mkF m 24 #[.val (.int p1), .val (.int iv)] [(.ref r)]))
      refine ownRetA X19 hx hlk (ty := (.object "com/example/tillbridge/tillbridge/channel/Bill$Standing")) hret rfl (hb hby d6_24) (by decide) (by decide) ?_
      show (Q_own_std Z p1 h0 n0 ) (some (.ref r)) T19.heap _
      rw [e19]
      exact ⟨r, rfl, N0, rfl⟩
    case neg =>
      have hc18I : ¬ iv.toInt = 1 := fun q => hc18 ((own_eqi rfl (by decide)).mpr q)
      refine ownVia (fun _ k => XS.icmpYes X0.here hx rfl (pc0 := 18) (pc' := 25) rfl (hb hby d6_18) rfl (feq hc18).2 (by decide) (by decide) k) ?_
      show ownFin _ _ _ _ _ (T0.setTop (mkF m 25 #[.val (.int p1), .val (.int iv)] []))
      refine ownVia (fun _ k => XS.iloadN X0.here hx rfl (hb hby d6_25) rfl k) ?_
      show ownFin _ _ _ _ _ (T0.setTop (mkF m 26 #[.val (.int p1), .val (.int iv)] [(.int iv)]))
      refine ownVia (fun _ k => XS.iconst X0.here hx rfl (hb hby d6_26) k) ?_
      show ownFin _ _ _ _ _ (T0.setTop (mkF m 27 #[.val (.int p1), .val (.int iv)] [(.int (2 : Int32)), (.int iv)]))
      by_cases hc20 : iv = (2 : Int32)
      case pos =>
        have hc20I : iv.toInt = 2 := (own_eqi rfl (by decide)).mp hc20
        refine ownVia (fun _ k => XS.icmpNo X0.here hx rfl (hb hby d6_27) rfl (teq hc20).2 k) ?_
        show ownFin _ _ _ _ _ (T0.setTop (mkF m 30 #[.val (.int p1), .val (.int iv)] []))
        obtain ⟨r, S_r⟩ := k2
        obtain ⟨T21, X21, e21, st21⟩ := getS2 X0 hx hZ hown (host := "") (Or.inl (hw _ (List.mem_of_getElem? (i := 72) rfl))) Via.refl e0 S_r (g := (mkF m 30 #[.val (.int p1), .val (.int iv)] [])) rfl (hb hby d6_30)
        refine ownVia st21 ?_
        show ownFin _ _ _ _ _ (T21.setTop (mkF m 33 #[.val (.int p1), .val (.int iv)] [(.ref r)]))
        refine ownRetA X21 hx hlk (ty := (.object "com/example/tillbridge/tillbridge/channel/Bill$Standing")) hret rfl (hb hby d6_33) (by decide) (by decide) ?_
        show (Q_own_std Z p1 h0 n0 ) (some (.ref r)) T21.heap _
        rw [e21]
        exact ⟨r, rfl, N0, rfl⟩
      case neg =>
        have hc20I : ¬ iv.toInt = 2 := fun q => hc20 ((own_eqi rfl (by decide)).mpr q)
        refine ownVia (fun _ k => XS.icmpYes X0.here hx rfl (pc0 := 27) (pc' := 34) rfl (hb hby d6_27) rfl (feq hc20).2 (by decide) (by decide) k) ?_
        show ownFin _ _ _ _ _ (T0.setTop (mkF m 34 #[.val (.int p1), .val (.int iv)] []))
        refine ownVia (fun _ k => XS.iloadN X0.here hx rfl (hb hby d6_34) rfl k) ?_
        show ownFin _ _ _ _ _ (T0.setTop (mkF m 35 #[.val (.int p1), .val (.int iv)] [(.int iv)]))
        refine ownVia (fun _ k => XS.iconst X0.here hx rfl (hb hby d6_35) k) ?_
        show ownFin _ _ _ _ _ (T0.setTop (mkF m 36 #[.val (.int p1), .val (.int iv)] [(.int (3 : Int32)), (.int iv)]))
        by_cases hc22 : iv = (3 : Int32)
        case pos =>
          have hc22I : iv.toInt = 3 := (own_eqi rfl (by decide)).mp hc22
          refine ownVia (fun _ k => XS.icmpNo X0.here hx rfl (hb hby d6_36) rfl (teq hc22).2 k) ?_
          show ownFin _ _ _ _ _ (T0.setTop (mkF m 39 #[.val (.int p1), .val (.int iv)] []))
          obtain ⟨r, S_r⟩ := k3
          obtain ⟨T23, X23, e23, st23⟩ := getS2 X0 hx hZ hown (host := "") (Or.inl (hw _ (List.mem_of_getElem? (i := 31) rfl))) Via.refl e0 S_r (g := (mkF m 39 #[.val (.int p1), .val (.int iv)] [])) rfl (hb hby d6_39)
          refine ownVia st23 ?_
          show ownFin _ _ _ _ _ (T23.setTop (mkF m 42 #[.val (.int p1), .val (.int iv)] [(.ref r)]))
          refine ownRetA X23 hx hlk (ty := (.object "com/example/tillbridge/tillbridge/channel/Bill$Standing")) hret rfl (hb hby d6_42) (by decide) (by decide) ?_
          show (Q_own_std Z p1 h0 n0 ) (some (.ref r)) T23.heap _
          rw [e23]
          exact ⟨r, rfl, N0, rfl⟩
        case neg =>
          have hc22I : ¬ iv.toInt = 3 := fun q => hc22 ((own_eqi rfl (by decide)).mpr q)
          refine ownVia (fun _ k => XS.icmpYes X0.here hx rfl (pc0 := 36) (pc' := 43) rfl (hb hby d6_36) rfl (feq hc22).2 (by decide) (by decide) k) ?_
          show ownFin _ _ _ _ _ (T0.setTop (mkF m 43 #[.val (.int p1), .val (.int iv)] []))
          refine ownVia (fun _ k => XS.iloadN X0.here hx rfl (hb hby d6_43) rfl k) ?_
          show ownFin _ _ _ _ _ (T0.setTop (mkF m 44 #[.val (.int p1), .val (.int iv)] [(.int iv)]))
          refine ownVia (fun _ k => XS.iconst X0.here hx rfl (hb hby d6_44) k) ?_
          show ownFin _ _ _ _ _ (T0.setTop (mkF m 45 #[.val (.int p1), .val (.int iv)] [(.int (4 : Int32)), (.int iv)]))
          by_cases hc24 : iv = (4 : Int32)
          case pos =>
            have hc24I : iv.toInt = 4 := (own_eqi rfl (by decide)).mp hc24
            refine ownVia (fun _ k => XS.icmpNo X0.here hx rfl (hb hby d6_45) rfl (teq hc24).2 k) ?_
            show ownFin _ _ _ _ _ (T0.setTop (mkF m 48 #[.val (.int p1), .val (.int iv)] []))
            obtain ⟨r, S_r⟩ := k4
            obtain ⟨T25, X25, e25, st25⟩ := getS2 X0 hx hZ hown (host := "") (Or.inl (hw _ (List.mem_of_getElem? (i := 97) rfl))) Via.refl e0 S_r (g := (mkF m 48 #[.val (.int p1), .val (.int iv)] [])) rfl (hb hby d6_48)
            refine ownVia st25 ?_
            show ownFin _ _ _ _ _ (T25.setTop (mkF m 51 #[.val (.int p1), .val (.int iv)] [(.ref r)]))
            refine ownRetA X25 hx hlk (ty := (.object "com/example/tillbridge/tillbridge/channel/Bill$Standing")) hret rfl (hb hby d6_51) (by decide) (by decide) ?_
            show (Q_own_std Z p1 h0 n0 ) (some (.ref r)) T25.heap _
            rw [e25]
            exact ⟨r, rfl, N0, rfl⟩
          case neg =>
            have hc24I : ¬ iv.toInt = 4 := fun q => hc24 ((own_eqi rfl (by decide)).mpr q)
            refine ownVia (fun _ k => XS.icmpYes X0.here hx rfl (pc0 := 45) (pc' := 52) rfl (hb hby d6_45) rfl (feq hc24).2 (by decide) (by decide) k) ?_
            show ownFin _ _ _ _ _ (T0.setTop (mkF m 52 #[.val (.int p1), .val (.int iv)] []))
            refine ownVia (fun _ k => XS.iloadN X0.here hx rfl (hb hby d6_52) rfl k) ?_
            show ownFin _ _ _ _ _ (T0.setTop (mkF m 53 #[.val (.int p1), .val (.int iv)] [(.int iv)]))
            refine ownVia (fun _ k => XS.iconst X0.here hx rfl (hb hby d6_53) k) ?_
            show ownFin _ _ _ _ _ (T0.setTop (mkF m 54 #[.val (.int p1), .val (.int iv)] [(.int (5 : Int32)), (.int iv)]))
            by_cases hc26 : iv = (5 : Int32)
            case pos =>
              have hc26I : iv.toInt = 5 := (own_eqi rfl (by decide)).mp hc26
              refine ownVia (fun _ k => XS.icmpNo X0.here hx rfl (hb hby d6_54) rfl (teq hc26).2 k) ?_
              show ownFin _ _ _ _ _ (T0.setTop (mkF m 57 #[.val (.int p1), .val (.int iv)] []))
              obtain ⟨r, S_r⟩ := k5
              obtain ⟨T27, X27, e27, st27⟩ := getS2 X0 hx hZ hown (host := "") (Or.inl (hw _ (List.mem_of_getElem? (i := 95) rfl))) Via.refl e0 S_r (g := (mkF m 57 #[.val (.int p1), .val (.int iv)] [])) rfl (hb hby d6_57)
              refine ownVia st27 ?_
              show ownFin _ _ _ _ _ (T27.setTop (mkF m 60 #[.val (.int p1), .val (.int iv)] [(.ref r)]))
              refine ownRetA X27 hx hlk (ty := (.object "com/example/tillbridge/tillbridge/channel/Bill$Standing")) hret rfl (hb hby d6_60) (by decide) (by decide) ?_
              show (Q_own_std Z p1 h0 n0 ) (some (.ref r)) T27.heap _
              rw [e27]
              exact ⟨r, rfl, N0, rfl⟩
            case neg =>
              have hc26I : ¬ iv.toInt = 5 := fun q => hc26 ((own_eqi rfl (by decide)).mpr q)
              refine ownVia (fun _ k => XS.icmpYes X0.here hx rfl (pc0 := 54) (pc' := 61) rfl (hb hby d6_54) rfl (feq hc26).2 (by decide) (by decide) k) ?_
              show ownFin _ _ _ _ _ (T0.setTop (mkF m 61 #[.val (.int p1), .val (.int iv)] []))
              obtain ⟨r, S_r⟩ := k6
              obtain ⟨T28, X28, e28, st28⟩ := getS2 X0 hx hZ hown (host := "") (Or.inl (hw _ (List.mem_of_getElem? (i := 106) rfl))) Via.refl e0 S_r (g := (mkF m 61 #[.val (.int p1), .val (.int iv)] [])) rfl (hb hby d6_61)
              refine ownVia st28 ?_
              show ownFin _ _ _ _ _ (T28.setTop (mkF m 64 #[.val (.int p1), .val (.int iv)] [(.ref r)]))
              refine ownRetA X28 hx hlk (ty := (.object "com/example/tillbridge/tillbridge/channel/Bill$Standing")) hret rfl (hb hby d6_64) (by decide) (by decide) ?_
              show (Q_own_std Z p1 h0 n0 ) (some (.ref r)) T28.heap _
              rw [e28]
              exact ⟨r, rfl, N0, rfl⟩
theorem d9_0 : decode prog_6_method_2_code 0 = .ok (.lload_n 0, 1) := by decide +kernel
theorem d9_1 : decode prog_6_method_2_code 1 = .ok (.ldc2_w 25, 3) := by decide +kernel
theorem d9_4 : decode prog_6_method_2_code 4 = .ok (.lcmp, 1) := by decide +kernel
theorem d9_5 : decode prog_6_method_2_code 5 = .ok (.ifCond .lt 15, 3) := by decide +kernel
theorem d9_8 : decode prog_6_method_2_code 8 = .ok (.lload_n 0, 1) := by decide +kernel
theorem d9_9 : decode prog_6_method_2_code 9 = .ok (.ldc2_w 27, 3) := by decide +kernel
theorem d9_12 : decode prog_6_method_2_code 12 = .ok (.lcmp, 1) := by decide +kernel
theorem d9_13 : decode prog_6_method_2_code 13 = .ok (.ifCond .gt 7, 3) := by decide +kernel
theorem d9_16 : decode prog_6_method_2_code 16 = .ok (.iconst 1, 1) := by decide +kernel
theorem d9_17 : decode prog_6_method_2_code 17 = .ok (.goto 4, 3) := by decide +kernel
theorem d9_20 : decode prog_6_method_2_code 20 = .ok (.iconst 0, 1) := by decide +kernel
theorem d9_21 : decode prog_6_method_2_code 21 = .ok (.ireturn, 1) := by decide +kernel
theorem own_pn3 : plainName "com/example/tillbridge/tillbridge/channel/Bill" = true := by first | (simp [plainName, overriddenIn]; done) | decide +kernel
theorem own_ef29 (m : MethodId) (q1 : Int64) : entryFrame m #[(.long q1)] 2 = mkF m 0 #[.val (.long q1), .second] [] := by first | (simp [entryFrame, mkF, argsToLocals, Value.category]; done) | rfl
def Q_own_isla (Z : State) (q1 : Int64) (h0 : Heap) (n0 : Nat)  : Option Value → Heap → List Loc → Prop := fun v h L => v = some (.int (own_la q1)) ∧ Fr n0 L ∧ h = h0
set_option maxRecDepth 65536 in
set_option maxHeartbeats 40000000 in
theorem own_isla (l : Launch) (Z : State) (a0 : Array Value) (hw : ∀ d ∈ tables_1, d.before a0 Z = true)  (q1 : Int64) (h0 : Heap) (n0 : Nat)  (Z0 : n0 ≤ h0.size)  :
    ownMet l Z (⟨"com/example/tillbridge/tillbridge/channel/Bill", "isLineAmount", "(J)Z"⟩ : MethodName) prog_6_method_2_code 2 (some .boolean) [] ({ frames := 0, cells := 0, slots := 0, locals := 0 } : Room) #[(.long q1)] h0 (Q_own_isla Z q1 h0 n0 ) := by
  refine ownBody (plainFor_of_name own_pn3) ?_
  intro p e s m below meth c T0 hx hby hml hret hlk hZ hown hnm X0 e0
  have N0 : Fr n0 [] := Fr.nil n0
  refine ownVia (fun _ k => castTop (own_ef29 m q1) k) ?_
  show ownFin _ _ _ _ _ (T0.setTop (mkF m 0 #[.val (.long q1), .second] []))
  refine ownVia (fun _ k => XS.lloadN X0.here hx rfl (hb hby d9_0) rfl k) ?_
  show ownFin _ _ _ _ _ (T0.setTop (mkF m 1 #[.val (.long q1), .second] [(.long q1)]))
  refine ownVia (fun _ k => X0.ldc2Long hx hown (mvT hZ (hw _ (List.mem_of_getElem? (i := 51) rfl))) (g := (mkF m 1 #[.val (.long q1), .second] [(.long q1)])) rfl (hb hby d9_1) _ k) ?_
  show ownFin _ _ _ _ _ (T0.setTop (mkF m 4 #[.val (.long q1), .second] [(.long (-2147483647 : Int64)), (.long q1)]))
  refine ownVia (fun _ k => XS.lcmp X0.here hx rfl (hb hby d9_4) rfl k) ?_
  show ownFin _ _ _ _ _ (T0.setTop (mkF m 5 #[.val (.long q1), .second] [(.int (lcmpW q1 (-2147483647 : Int64)))]))
  by_cases hc30 : q1 < (-2147483647 : Int64)
  case pos =>
    have hc30I : q1.toInt < -2147483647 := (own_ltl rfl (by decide)).mp hc30
    refine ownVia (fun _ k => XS.ifYes X0.here hx rfl (pc0 := 5) (pc' := 20) rfl (hb hby d9_5) rfl ((if0 _ _).trans (tlt ((lw_lt _ _).mpr hc30)).1) (by decide) (by decide) k) ?_
    show ownFin _ _ _ _ _ (T0.setTop (mkF m 20 #[.val (.long q1), .second] []))
    refine ownVia (fun _ k => XS.iconst X0.here hx rfl (hb hby d9_20) k) ?_
    show ownFin _ _ _ _ _ (T0.setTop (mkF m 21 #[.val (.long q1), .second] [(.int (0 : Int32))]))
    refine ownRetZ X0 hx hlk hret (hb hby d9_21) (by decide) (by decide) (Or.inl rfl) ?_
    show (Q_own_isla Z q1 h0 n0 ) (some (.int (0 : Int32))) T0.heap _
    rw [e0]
    exact ⟨by rw [own_la_lo hc30], N0, rfl⟩
  case neg =>
    have hc30I : ¬ q1.toInt < -2147483647 := fun q => hc30 ((own_ltl rfl (by decide)).mpr q)
    refine ownVia (fun _ k => XS.ifNo X0.here hx rfl (hb hby d9_5) rfl ((if0 _ _).trans (flt (fun q => hc30 ((lw_lt _ _).mp q))).1) k) ?_
    show ownFin _ _ _ _ _ (T0.setTop (mkF m 8 #[.val (.long q1), .second] []))
    refine ownVia (fun _ k => XS.lloadN X0.here hx rfl (hb hby d9_8) rfl k) ?_
    show ownFin _ _ _ _ _ (T0.setTop (mkF m 9 #[.val (.long q1), .second] [(.long q1)]))
    refine ownVia (fun _ k => X0.ldc2Long hx hown (mvT hZ (hw _ (List.mem_of_getElem? (i := 52) rfl))) (g := (mkF m 9 #[.val (.long q1), .second] [(.long q1)])) rfl (hb hby d9_9) _ k) ?_
    show ownFin _ _ _ _ _ (T0.setTop (mkF m 12 #[.val (.long q1), .second] [(.long (2147483647 : Int64)), (.long q1)]))
    refine ownVia (fun _ k => XS.lcmp X0.here hx rfl (hb hby d9_12) rfl k) ?_
    show ownFin _ _ _ _ _ (T0.setTop (mkF m 13 #[.val (.long q1), .second] [(.int (lcmpW q1 (2147483647 : Int64)))]))
    by_cases hc31 : (2147483647 : Int64) < q1
    case pos =>
      have hc31I : 2147483647 < q1.toInt := (own_ltl (by decide) rfl).mp hc31
      refine ownVia (fun _ k => XS.ifYes X0.here hx rfl (pc0 := 13) (pc' := 20) rfl (hb hby d9_13) rfl ((if0 _ _).trans (tlt ((lw_gt _ _).mpr hc31)).2.2.1) (by decide) (by decide) k) ?_
      show ownFin _ _ _ _ _ (T0.setTop (mkF m 20 #[.val (.long q1), .second] []))
      refine ownVia (fun _ k => XS.iconst X0.here hx rfl (hb hby d9_20) k) ?_
      show ownFin _ _ _ _ _ (T0.setTop (mkF m 21 #[.val (.long q1), .second] [(.int (0 : Int32))]))
      refine ownRetZ X0 hx hlk hret (hb hby d9_21) (by decide) (by decide) (Or.inl rfl) ?_
      show (Q_own_isla Z q1 h0 n0 ) (some (.int (0 : Int32))) T0.heap _
      rw [e0]
      exact ⟨by rw [own_la_hi hc31], N0, rfl⟩
    case neg =>
      have hc31I : ¬ 2147483647 < q1.toInt := fun q => hc31 ((own_ltl (by decide) rfl).mpr q)
      refine ownVia (fun _ k => XS.ifNo X0.here hx rfl (hb hby d9_13) rfl ((if0 _ _).trans (flt (fun q => hc31 ((lw_gt _ _).mp q))).2.2.1) k) ?_
      show ownFin _ _ _ _ _ (T0.setTop (mkF m 16 #[.val (.long q1), .second] []))
      refine ownVia (fun _ k => XS.iconst X0.here hx rfl (hb hby d9_16) k) ?_
      show ownFin _ _ _ _ _ (T0.setTop (mkF m 17 #[.val (.long q1), .second] [(.int (1 : Int32))]))
      refine ownVia (fun _ k => XS.goto X0.here hx rfl (pc0 := 17) (pc' := 21) rfl (hb hby d9_17) (by decide) (by decide) k) ?_
      show ownFin _ _ _ _ _ (T0.setTop (mkF m 21 #[.val (.long q1), .second] [(.int (1 : Int32))]))
      refine ownRetZ X0 hx hlk hret (hb hby d9_21) (by decide) (by decide) (Or.inr rfl) ?_
      show (Q_own_isla Z q1 h0 n0 ) (some (.int (1 : Int32))) T0.heap _
      rw [e0]
      exact ⟨by rw [own_la_in hc30 hc31], N0, rfl⟩
theorem d8_0 : decode jdk_30_method_1_code 0 = .ok (.aload_n 0, 1) := by decide +kernel
theorem d8_1 : decode jdk_30_method_1_code 1 = .ok (.invokespecial 1, 3) := by decide +kernel
theorem d8_4 : decode jdk_30_method_1_code 4 = .ok (.return_, 1) := by decide +kernel
theorem own_pn4 : plainName "java/lang/Record" = true := by first | (simp [plainName, overriddenIn]; done) | decide +kernel
theorem own_ef32 (m : MethodId) (a1 : Addr) : entryFrame m #[(.ref a1)] 1 = mkF m 0 #[.val (.ref a1)] [] := by first | (simp [entryFrame, mkF, argsToLocals, Value.category]; done) | rfl
def Q_own_rec (Z : State) (a1 : Addr) (h0 : Heap) (n0 : Nat)  : Option Value → Heap → List Loc → Prop := fun v h L => v = none ∧ Fr n0 L ∧ h = h0
set_option maxRecDepth 65536 in
set_option maxHeartbeats 40000000 in
theorem own_rec (l : Launch) (Z : State) (a0 : Array Value) (hw : ∀ d ∈ tables_1, d.before a0 Z = true)  (a1 : Addr) (h0 : Heap) (n0 : Nat)  (Z0 : n0 ≤ h0.size)  :
    ownMet l Z (⟨"java/lang/Record", "<init>", "()V"⟩ : MethodName) jdk_30_method_1_code 1 none [] ({ frames := 1, cells := 0, slots := 0, locals := 12 } : Room) #[(.ref a1)] h0 (Q_own_rec Z a1 h0 n0 ) := by
  refine ownBody (plainFor_of_name own_pn4) ?_
  intro p e s m below meth c T0 hx hby hml hret hlk hZ hown hnm X0 e0
  have N0 : Fr n0 [] := Fr.nil n0
  refine ownVia (fun _ k => castTop (own_ef32 m a1) k) ?_
  show ownFin _ _ _ _ _ (T0.setTop (mkF m 0 #[.val (.ref a1)] []))
  refine ownVia (fun _ k => XS.aloadN X0.here hx rfl (hb hby d8_0) rfl rfl k) ?_
  show ownFin _ _ _ _ _ (T0.setTop (mkF m 1 #[.val (.ref a1)] [(.ref a1)]))
  obtain ⟨T33, X33, e33, st33⟩ := initO X0 hx hZ hown (hw _ (List.mem_of_getElem? (i := 46) rfl)) (hw _ (List.mem_of_getElem? (i := 20) rfl)) (hw _ (List.mem_of_getElem? (i := 21) rfl)) e0 (g := (mkF m 1 #[.val (.ref a1)] [(.ref a1)])) rfl (by rw [hml]; rfl) rfl (hb hby d8_1) (by decide) (W := 0) (by show 2 * 0 + _ ≤ _; exact Nat.le_of_eq rfl) (by decide)
  refine ownVia st33 ?_
  show ownFin _ _ _ _ _ (T33.setTop (mkF m 4 #[.val (.ref a1)] []))
  refine ownRetV X33 hx hlk hret (hb hby d8_4) (by decide) (by decide) ?_
  show (Q_own_rec Z a1 h0 n0 ) none T33.heap _
  rw [e33]
  exact ⟨rfl, N0, rfl⟩
theorem d7_0 : decode prog_7_method_1_code 0 = .ok (.aload_n 0, 1) := by decide +kernel
theorem d7_1 : decode prog_7_method_1_code 1 = .ok (.invokespecial 1, 3) := by decide +kernel
theorem d7_4 : decode prog_7_method_1_code 4 = .ok (.lload 5, 2) := by decide +kernel
theorem d7_6 : decode prog_7_method_1_code 6 = .ok (.invokestatic 7, 3) := by decide +kernel
theorem d7_9 : decode prog_7_method_1_code 9 = .ok (.ifCond .eq 19, 3) := by decide +kernel
theorem d7_12 : decode prog_7_method_1_code 12 = .ok (.lload 7, 2) := by decide +kernel
theorem d7_14 : decode prog_7_method_1_code 14 = .ok (.invokestatic 7, 3) := by decide +kernel
theorem d7_17 : decode prog_7_method_1_code 17 = .ok (.ifCond .eq 11, 3) := by decide +kernel
theorem d7_20 : decode prog_7_method_1_code 20 = .ok (.lload 9, 2) := by decide +kernel
theorem d7_22 : decode prog_7_method_1_code 22 = .ok (.invokestatic 7, 3) := by decide +kernel
theorem d7_25 : decode prog_7_method_1_code 25 = .ok (.ifCond .ne 22, 3) := by decide +kernel
theorem d7_28 : decode prog_7_method_1_code 28 = .ok (.new 13, 3) := by decide +kernel
theorem d7_31 : decode prog_7_method_1_code 31 = .ok (.dup, 1) := by decide +kernel
theorem d7_32 : decode prog_7_method_1_code 32 = .ok (.lload 5, 2) := by decide +kernel
theorem d7_34 : decode prog_7_method_1_code 34 = .ok (.lload 7, 2) := by decide +kernel
theorem d7_36 : decode prog_7_method_1_code 36 = .ok (.lload 9, 2) := by decide +kernel
theorem d7_38 : decode prog_7_method_1_code 38 = .ok (.invokedynamic 15, 5) := by decide +kernel
theorem d7_43 : decode prog_7_method_1_code 43 = .ok (.invokespecial 19, 3) := by decide +kernel
theorem d7_46 : decode prog_7_method_1_code 46 = .ok (.athrow, 1) := by decide +kernel
theorem d7_47 : decode prog_7_method_1_code 47 = .ok (.aload_n 0, 1) := by decide +kernel
theorem d7_48 : decode prog_7_method_1_code 48 = .ok (.aload_n 1, 1) := by decide +kernel
theorem d7_49 : decode prog_7_method_1_code 49 = .ok (.putfield 22, 3) := by decide +kernel
theorem d7_52 : decode prog_7_method_1_code 52 = .ok (.aload_n 0, 1) := by decide +kernel
theorem d7_53 : decode prog_7_method_1_code 53 = .ok (.aload_n 2, 1) := by decide +kernel
theorem d7_54 : decode prog_7_method_1_code 54 = .ok (.putfield 28, 3) := by decide +kernel
theorem d7_57 : decode prog_7_method_1_code 57 = .ok (.aload_n 0, 1) := by decide +kernel
theorem d7_58 : decode prog_7_method_1_code 58 = .ok (.aload_n 3, 1) := by decide +kernel
theorem d7_59 : decode prog_7_method_1_code 59 = .ok (.putfield 31, 3) := by decide +kernel
theorem d7_62 : decode prog_7_method_1_code 62 = .ok (.aload_n 0, 1) := by decide +kernel
theorem d7_63 : decode prog_7_method_1_code 63 = .ok (.aload 4, 2) := by decide +kernel
theorem d7_65 : decode prog_7_method_1_code 65 = .ok (.putfield 34, 3) := by decide +kernel
theorem d7_68 : decode prog_7_method_1_code 68 = .ok (.aload_n 0, 1) := by decide +kernel
theorem d7_69 : decode prog_7_method_1_code 69 = .ok (.lload 5, 2) := by decide +kernel
theorem d7_71 : decode prog_7_method_1_code 71 = .ok (.putfield 38, 3) := by decide +kernel
theorem d7_74 : decode prog_7_method_1_code 74 = .ok (.aload_n 0, 1) := by decide +kernel
theorem d7_75 : decode prog_7_method_1_code 75 = .ok (.lload 7, 2) := by decide +kernel
theorem d7_77 : decode prog_7_method_1_code 77 = .ok (.putfield 42, 3) := by decide +kernel
theorem d7_80 : decode prog_7_method_1_code 80 = .ok (.aload_n 0, 1) := by decide +kernel
theorem d7_81 : decode prog_7_method_1_code 81 = .ok (.lload 9, 2) := by decide +kernel
theorem d7_83 : decode prog_7_method_1_code 83 = .ok (.putfield 45, 3) := by decide +kernel
theorem d7_86 : decode prog_7_method_1_code 86 = .ok (.return_, 1) := by decide +kernel
theorem own_pn5 : plainName "com/example/tillbridge/tillbridge/channel/Bill$Line" = true := by first | (simp [plainName, overriddenIn]; done) | decide +kernel
theorem own_ef34 (m : MethodId) (a1 : Addr) (a2 : Addr) (a5 : Addr) (q1 : Int64) (q2 : Int64) (q3 : Int64) : entryFrame m #[(.ref a1), (.ref a2), .null, .null, (.ref a5), (.long q1), (.long q2), (.long q3)] 11 = mkF m 0 #[.val (.ref a1), .val (.ref a2), .val .null, .val .null, .val (.ref a5), .val (.long q1), .second, .val (.long q2), .second, .val (.long q3), .second] [] := by first | (simp [entryFrame, mkF, argsToLocals, Value.category]; done) | rfl
def Q_own_line_nn (Z : State) (a1 : Addr) (a2 : Addr) (a5 : Addr) (q1 : Int64) (q2 : Int64) (q3 : Int64) (h0 : Heap) (n0 : Nat)  : Option Value → Heap → List Loc → Prop := fun v h L => v = none ∧ Fr n0 L ∧ Keep h0 h [a1] ∧ Fld Z h a1 "com/example/tillbridge/tillbridge/channel/Bill$Line" "outRefundNo" "Ljava/lang/String;" .null
theorem own_pd3 : parseMethodDescriptor "()V" = some ⟨[], none⟩ := by decide +kernel
theorem own_pd4 : parseMethodDescriptor "(J)Z" = some ⟨[.long], some .boolean⟩ := by decide +kernel
set_option maxRecDepth 65536 in
set_option maxHeartbeats 40000000 in
theorem own_line_nn (l : Launch) (Z : State) (a0 : Array Value) (hw : ∀ d ∈ tables_1, d.before a0 Z = true)  (a1 : Addr) (a2 : Addr) (a5 : Addr) (q1 : Int64) (q2 : Int64) (q3 : Int64) (h0 : Heap) (n0 : Nat)  (Z0 : n0 ≤ h0.size) (F_a1_outTradeNo : Fld Z h0 a1 "com/example/tillbridge/tillbridge/channel/Bill$Line" "outTradeNo" "Ljava/lang/String;" .null) (F_a1_outRefundNo : Fld Z h0 a1 "com/example/tillbridge/tillbridge/channel/Bill$Line" "outRefundNo" "Ljava/lang/String;" .null) (F_a1_state : Fld Z h0 a1 "com/example/tillbridge/tillbridge/channel/Bill$Line" "state" "Ljava/lang/String;" .null) (F_a1_standing : Fld Z h0 a1 "com/example/tillbridge/tillbridge/channel/Bill$Line" "standing" "Lcom/example/tillbridge/tillbridge/channel/Bill$Standing;" .null) (F_a1_amount : Fld Z h0 a1 "com/example/tillbridge/tillbridge/channel/Bill$Line" "amount" "J" (.long (0 : Int64))) (F_a1_couponRefund : Fld Z h0 a1 "com/example/tillbridge/tillbridge/channel/Bill$Line" "couponRefund" "J" (.long (0 : Int64))) (F_a1_fee : Fld Z h0 a1 "com/example/tillbridge/tillbridge/channel/Bill$Line" "fee" "J" (.long (0 : Int64))) (E_a1 : Exa Z h0 a1 "com/example/tillbridge/tillbridge/channel/Bill$Line") (ge_a1 : n0 ≤ a1) (h1 : own_la q1 = 1) (h2 : own_la q2 = 1) (h3 : own_la q3 = 1) :
    ownMet l Z (⟨"com/example/tillbridge/tillbridge/channel/Bill$Line", "<init>", "(Ljava/lang/String;Ljava/lang/String;Ljava/lang/String;Lcom/example/tillbridge/tillbridge/channel/Bill$Standing;JJJ)V"⟩ : MethodName) prog_7_method_1_code 11 none [] ({ frames := 2, cells := 0, slots := 0, locals := 40 } : Room) #[(.ref a1), (.ref a2), .null, .null, (.ref a5), (.long q1), (.long q2), (.long q3)] h0 (Q_own_line_nn Z a1 a2 a5 q1 q2 q3 h0 n0 ) := by
  refine ownBody (plainFor_of_name own_pn5) ?_
  intro p e s m below meth c T0 hx hby hml hret hlk hZ hown hnm X0 e0
  have N0 : Fr n0 [] := Fr.nil n0
  refine ownVia (fun _ k => castTop (own_ef34 m a1 a2 a5 q1 q2 q3) k) ?_
  show ownFin _ _ _ _ _ (T0.setTop (mkF m 0 #[.val (.ref a1), .val (.ref a2), .val .null, .val .null, .val (.ref a5), .val (.long q1), .second, .val (.long q2), .second, .val (.long q3), .second] []))
  have K0 : Keep h0 h0 [a1] := Keep.refl _ _
  refine ownVia (fun _ k => XS.aloadN X0.here hx rfl (hb hby d7_0) rfl rfl k) ?_
  show ownFin _ _ _ _ _ (T0.setTop (mkF m 1 #[.val (.ref a1), .val (.ref a2), .val .null, .val .null, .val (.ref a5), .val (.long q1), .second, .val (.long q2), .second, .val (.long q3), .second] [(.ref a1)]))
  refine ownCallN X0 hx hZ hown rfl (hw _ (List.mem_of_getElem? (i := 41) rfl)) (hw _ (List.mem_of_getElem? (i := 42) rfl)) (hw _ (List.mem_of_getElem? (i := 44) rfl)) (hw _ (List.mem_of_getElem? (i := 45) rfl)) (by decide) e0 (own_rec l Z a0 hw a1 h0 n0 Z0) (by rw [hml]; rfl) a1 [] [] (lenOf own_pd3 rfl) rfl rfl 0 rfl (hb hby d7_1) (by decide) (by decide) (by decide) (by decide) ?_
  intro v35 T35 L35 X35 hq35
  obtain ⟨rfl, N35q, eq35⟩ := hq35
  have N35 := Fr.app N0 N35q
  have e35 : T35.heap = h0 := eq35
  show ownFin _ _ _ _ _ (T35.setTop (mkF m 4 #[.val (.ref a1), .val (.ref a2), .val .null, .val .null, .val (.ref a5), .val (.long q1), .second, .val (.long q2), .second, .val (.long q3), .second] []))
  refine ownVia (fun _ k => XS.lload X35.here hx rfl (hb hby d7_4) rfl k) ?_
  show ownFin _ _ _ _ _ (T35.setTop (mkF m 6 #[.val (.ref a1), .val (.ref a2), .val .null, .val .null, .val (.ref a5), .val (.long q1), .second, .val (.long q2), .second, .val (.long q3), .second] [(.long q1)]))
  refine ownCallS X35 hx hZ hown (hw _ (List.mem_of_getElem? (i := 47) rfl)) (hw _ (List.mem_of_getElem? (i := 48) rfl)) (hw _ (List.mem_of_getElem? (i := 49) rfl)) (hw _ (List.mem_of_getElem? (i := 50) rfl)) (by decide) e35 (own_isla l Z a0 hw q1 h0 n0 Z0) (by rw [hml]; rfl) [(.long q1)] [] (lenOf own_pd4 rfl) rfl rfl 0 rfl (hb hby d7_6) (by decide) (by decide) (by decide) (by decide) ?_
  intro v36 T36 L36 X36 hq36
  obtain ⟨rfl, N36q, eq36⟩ := hq36
  have N36 := Fr.app N35 N36q
  have e36 : T36.heap = h0 := eq36
  show ownFin _ _ _ _ _ (T36.setTop (mkF m 9 #[.val (.ref a1), .val (.ref a2), .val .null, .val .null, .val (.ref a5), .val (.long q1), .second, .val (.long q2), .second, .val (.long q3), .second] [(.int (own_la q1))]))
  refine ownVia (fun _ k => XS.ifNo X36.here hx rfl (hb hby d7_9) rfl ((if0 _ _).trans (feq (by rw [h1]; decide)).1) k) ?_
  show ownFin _ _ _ _ _ (T36.setTop (mkF m 12 #[.val (.ref a1), .val (.ref a2), .val .null, .val .null, .val (.ref a5), .val (.long q1), .second, .val (.long q2), .second, .val (.long q3), .second] []))
  refine ownVia (fun _ k => XS.lload X36.here hx rfl (hb hby d7_12) rfl k) ?_
  show ownFin _ _ _ _ _ (T36.setTop (mkF m 14 #[.val (.ref a1), .val (.ref a2), .val .null, .val .null, .val (.ref a5), .val (.long q1), .second, .val (.long q2), .second, .val (.long q3), .second] [(.long q2)]))
  refine ownCallS X36 hx hZ hown (hw _ (List.mem_of_getElem? (i := 47) rfl)) (hw _ (List.mem_of_getElem? (i := 48) rfl)) (hw _ (List.mem_of_getElem? (i := 49) rfl)) (hw _ (List.mem_of_getElem? (i := 50) rfl)) (by decide) e36 (own_isla l Z a0 hw q2 h0 n0 Z0) (by rw [hml]; rfl) [(.long q2)] [] (lenOf own_pd4 rfl) rfl rfl 0 rfl (hb hby d7_14) (by decide) (by decide) (by decide) (by decide) ?_
  intro v37 T37 L37 X37 hq37
  obtain ⟨rfl, N37q, eq37⟩ := hq37
  have N37 := Fr.app N36 N37q
  have e37 : T37.heap = h0 := eq37
  show ownFin _ _ _ _ _ (T37.setTop (mkF m 17 #[.val (.ref a1), .val (.ref a2), .val .null, .val .null, .val (.ref a5), .val (.long q1), .second, .val (.long q2), .second, .val (.long q3), .second] [(.int (own_la q2))]))
  refine ownVia (fun _ k => XS.ifNo X37.here hx rfl (hb hby d7_17) rfl ((if0 _ _).trans (feq (by rw [h2]; decide)).1) k) ?_
  show ownFin _ _ _ _ _ (T37.setTop (mkF m 20 #[.val (.ref a1), .val (.ref a2), .val .null, .val .null, .val (.ref a5), .val (.long q1), .second, .val (.long q2), .second, .val (.long q3), .second] []))
  refine ownVia (fun _ k => XS.lload X37.here hx rfl (hb hby d7_20) rfl k) ?_
  show ownFin _ _ _ _ _ (T37.setTop (mkF m 22 #[.val (.ref a1), .val (.ref a2), .val .null, .val .null, .val (.ref a5), .val (.long q1), .second, .val (.long q2), .second, .val (.long q3), .second] [(.long q3)]))
  refine ownCallS X37 hx hZ hown (hw _ (List.mem_of_getElem? (i := 47) rfl)) (hw _ (List.mem_of_getElem? (i := 48) rfl)) (hw _ (List.mem_of_getElem? (i := 49) rfl)) (hw _ (List.mem_of_getElem? (i := 50) rfl)) (by decide) e37 (own_isla l Z a0 hw q3 h0 n0 Z0) (by rw [hml]; rfl) [(.long q3)] [] (lenOf own_pd4 rfl) rfl rfl 0 rfl (hb hby d7_22) (by decide) (by decide) (by decide) (by decide) ?_
  intro v38 T38 L38 X38 hq38
  obtain ⟨rfl, N38q, eq38⟩ := hq38
  have N38 := Fr.app N37 N38q
  have e38 : T38.heap = h0 := eq38
  show ownFin _ _ _ _ _ (T38.setTop (mkF m 25 #[.val (.ref a1), .val (.ref a2), .val .null, .val .null, .val (.ref a5), .val (.long q1), .second, .val (.long q2), .second, .val (.long q3), .second] [(.int (own_la q3))]))
  refine ownVia (fun _ k => XS.ifYes X38.here hx rfl (pc0 := 25) (pc' := 47) rfl (hb hby d7_25) rfl ((if0 _ _).trans (feq (by rw [h3]; decide)).2) (by decide) (by decide) k) ?_
  show ownFin _ _ _ _ _ (T38.setTop (mkF m 47 #[.val (.ref a1), .val (.ref a2), .val .null, .val .null, .val (.ref a5), .val (.long q1), .second, .val (.long q2), .second, .val (.long q3), .second] []))
  refine ownVia (fun _ k => XS.aloadN X38.here hx rfl (hb hby d7_47) rfl rfl k) ?_
  show ownFin _ _ _ _ _ (T38.setTop (mkF m 48 #[.val (.ref a1), .val (.ref a2), .val .null, .val .null, .val (.ref a5), .val (.long q1), .second, .val (.long q2), .second, .val (.long q3), .second] [(.ref a1)]))
  refine ownVia (fun _ k => XS.aloadN X38.here hx rfl (hb hby d7_48) rfl rfl k) ?_
  show ownFin _ _ _ _ _ (T38.setTop (mkF m 49 #[.val (.ref a1), .val (.ref a2), .val .null, .val .null, .val (.ref a5), .val (.long q1), .second, .val (.long q2), .second, .val (.long q3), .second] [(.ref a2), (.ref a1)]))
  obtain ⟨T39, h39, X39, e39, W39, st39⟩ := putF X38 hx hZ hown (host := "") (Or.inl (hw _ (List.mem_of_getElem? (i := 53) rfl))) Via.refl e38 F_a1_outTradeNo E_a1 (Or.inr ⟨(hw _ (List.mem_of_getElem? (i := 54) rfl)), rfl, hnm⟩) (hw _ (List.mem_of_getElem? (i := 36) rfl)) (ty := (.object "java/lang/String")) (by decide) rfl rfl (g := (mkF m 49 #[.val (.ref a1), .val (.ref a2), .val .null, .val .null, .val (.ref a5), .val (.long q1), .second, .val (.long q2), .second, .val (.long q3), .second] [(.ref a2), (.ref a1)])) rfl rfl (hb hby d7_49)
  have N39 := Fr.snoc X39 N38 ge_a1
  have F_a1_outTradeNo := F_a1_outTradeNo.same W39
  have F_a1_outRefundNo := F_a1_outRefundNo.other W39 (Or.inr (slot_ne (Or.inr (hw _ (List.mem_of_getElem? (i := 56) rfl))) (Or.inr (hw _ (List.mem_of_getElem? (i := 54) rfl))) (by decide) (t := (.object "java/lang/String")) (t' := (.object "java/lang/String")) (by decide) (by decide)))
  have F_a1_state := F_a1_state.other W39 (Or.inr (slot_ne (Or.inr (hw _ (List.mem_of_getElem? (i := 58) rfl))) (Or.inr (hw _ (List.mem_of_getElem? (i := 54) rfl))) (by decide) (t := (.object "java/lang/String")) (t' := (.object "java/lang/String")) (by decide) (by decide)))
  have F_a1_standing := F_a1_standing.other W39 (Or.inr (slot_ne (Or.inr (hw _ (List.mem_of_getElem? (i := 60) rfl))) (Or.inr (hw _ (List.mem_of_getElem? (i := 54) rfl))) (by decide) (t := (.object "com/example/tillbridge/tillbridge/channel/Bill$Standing")) (t' := (.object "java/lang/String")) (by decide) (by decide)))
  have F_a1_amount := F_a1_amount.other W39 (Or.inr (slot_ne (Or.inr (hw _ (List.mem_of_getElem? (i := 62) rfl))) (Or.inr (hw _ (List.mem_of_getElem? (i := 54) rfl))) (by decide) (t := .long) (t' := (.object "java/lang/String")) (by decide) (by decide)))
  have F_a1_couponRefund := F_a1_couponRefund.other W39 (Or.inr (slot_ne (Or.inr (hw _ (List.mem_of_getElem? (i := 64) rfl))) (Or.inr (hw _ (List.mem_of_getElem? (i := 54) rfl))) (by decide) (t := .long) (t' := (.object "java/lang/String")) (by decide) (by decide)))
  have F_a1_fee := F_a1_fee.other W39 (Or.inr (slot_ne (Or.inr (hw _ (List.mem_of_getElem? (i := 66) rfl))) (Or.inr (hw _ (List.mem_of_getElem? (i := 54) rfl))) (by decide) (t := .long) (t' := (.object "java/lang/String")) (by decide) (by decide)))
  have E_a1 := E_a1.wr W39
  have K0 := K0.wr W39 (Or.inl (List.mem_of_getElem? (i := 0) rfl))
  have Z0 := own_szW Z0 W39
  refine ownVia st39 ?_
  show ownFin _ _ _ _ _ (T39.setTop (mkF m 52 #[.val (.ref a1), .val (.ref a2), .val .null, .val .null, .val (.ref a5), .val (.long q1), .second, .val (.long q2), .second, .val (.long q3), .second] []))
  refine ownVia (fun _ k => XS.aloadN X39.here hx rfl (hb hby d7_52) rfl rfl k) ?_
  show ownFin _ _ _ _ _ (T39.setTop (mkF m 53 #[.val (.ref a1), .val (.ref a2), .val .null, .val .null, .val (.ref a5), .val (.long q1), .second, .val (.long q2), .second, .val (.long q3), .second] [(.ref a1)]))
  refine ownVia (fun _ k => XS.aloadN X39.here hx rfl (hb hby d7_53) rfl rfl k) ?_
  show ownFin _ _ _ _ _ (T39.setTop (mkF m 54 #[.val (.ref a1), .val (.ref a2), .val .null, .val .null, .val (.ref a5), .val (.long q1), .second, .val (.long q2), .second, .val (.long q3), .second] [.null, (.ref a1)]))
  obtain ⟨T40, h40, X40, e40, W40, st40⟩ := putF X39 hx hZ hown (host := "") (Or.inl (hw _ (List.mem_of_getElem? (i := 55) rfl))) Via.refl e39 F_a1_outRefundNo E_a1 (Or.inr ⟨(hw _ (List.mem_of_getElem? (i := 56) rfl)), rfl, hnm⟩) (hw _ (List.mem_of_getElem? (i := 36) rfl)) (ty := (.object "java/lang/String")) (by decide) rfl rfl (g := (mkF m 54 #[.val (.ref a1), .val (.ref a2), .val .null, .val .null, .val (.ref a5), .val (.long q1), .second, .val (.long q2), .second, .val (.long q3), .second] [.null, (.ref a1)])) rfl rfl (hb hby d7_54)
  have N40 := Fr.snoc X40 N39 ge_a1
  have F_a1_outRefundNo := F_a1_outRefundNo.same W40
  have F_a1_outTradeNo := F_a1_outTradeNo.other W40 (Or.inr (slot_ne (Or.inr (hw _ (List.mem_of_getElem? (i := 54) rfl))) (Or.inr (hw _ (List.mem_of_getElem? (i := 56) rfl))) (by decide) (t := (.object "java/lang/String")) (t' := (.object "java/lang/String")) (by decide) (by decide)))
  have F_a1_state := F_a1_state.other W40 (Or.inr (slot_ne (Or.inr (hw _ (List.mem_of_getElem? (i := 58) rfl))) (Or.inr (hw _ (List.mem_of_getElem? (i := 56) rfl))) (by decide) (t := (.object "java/lang/String")) (t' := (.object "java/lang/String")) (by decide) (by decide)))
  have F_a1_standing := F_a1_standing.other W40 (Or.inr (slot_ne (Or.inr (hw _ (List.mem_of_getElem? (i := 60) rfl))) (Or.inr (hw _ (List.mem_of_getElem? (i := 56) rfl))) (by decide) (t := (.object "com/example/tillbridge/tillbridge/channel/Bill$Standing")) (t' := (.object "java/lang/String")) (by decide) (by decide)))
  have F_a1_amount := F_a1_amount.other W40 (Or.inr (slot_ne (Or.inr (hw _ (List.mem_of_getElem? (i := 62) rfl))) (Or.inr (hw _ (List.mem_of_getElem? (i := 56) rfl))) (by decide) (t := .long) (t' := (.object "java/lang/String")) (by decide) (by decide)))
  have F_a1_couponRefund := F_a1_couponRefund.other W40 (Or.inr (slot_ne (Or.inr (hw _ (List.mem_of_getElem? (i := 64) rfl))) (Or.inr (hw _ (List.mem_of_getElem? (i := 56) rfl))) (by decide) (t := .long) (t' := (.object "java/lang/String")) (by decide) (by decide)))
  have F_a1_fee := F_a1_fee.other W40 (Or.inr (slot_ne (Or.inr (hw _ (List.mem_of_getElem? (i := 66) rfl))) (Or.inr (hw _ (List.mem_of_getElem? (i := 56) rfl))) (by decide) (t := .long) (t' := (.object "java/lang/String")) (by decide) (by decide)))
  have E_a1 := E_a1.wr W40
  have K0 := K0.wr W40 (Or.inl (List.mem_of_getElem? (i := 0) rfl))
  have Z0 := own_szW Z0 W40
  refine ownVia st40 ?_
  show ownFin _ _ _ _ _ (T40.setTop (mkF m 57 #[.val (.ref a1), .val (.ref a2), .val .null, .val .null, .val (.ref a5), .val (.long q1), .second, .val (.long q2), .second, .val (.long q3), .second] []))
  refine ownVia (fun _ k => XS.aloadN X40.here hx rfl (hb hby d7_57) rfl rfl k) ?_
  show ownFin _ _ _ _ _ (T40.setTop (mkF m 58 #[.val (.ref a1), .val (.ref a2), .val .null, .val .null, .val (.ref a5), .val (.long q1), .second, .val (.long q2), .second, .val (.long q3), .second] [(.ref a1)]))
  refine ownVia (fun _ k => XS.aloadN X40.here hx rfl (hb hby d7_58) rfl rfl k) ?_
  show ownFin _ _ _ _ _ (T40.setTop (mkF m 59 #[.val (.ref a1), .val (.ref a2), .val .null, .val .null, .val (.ref a5), .val (.long q1), .second, .val (.long q2), .second, .val (.long q3), .second] [.null, (.ref a1)]))
  obtain ⟨T41, h41, X41, e41, W41, st41⟩ := putF X40 hx hZ hown (host := "") (Or.inl (hw _ (List.mem_of_getElem? (i := 57) rfl))) Via.refl e40 F_a1_state E_a1 (Or.inr ⟨(hw _ (List.mem_of_getElem? (i := 58) rfl)), rfl, hnm⟩) (hw _ (List.mem_of_getElem? (i := 36) rfl)) (ty := (.object "java/lang/String")) (by decide) rfl rfl (g := (mkF m 59 #[.val (.ref a1), .val (.ref a2), .val .null, .val .null, .val (.ref a5), .val (.long q1), .second, .val (.long q2), .second, .val (.long q3), .second] [.null, (.ref a1)])) rfl rfl (hb hby d7_59)
  have N41 := Fr.snoc X41 N40 ge_a1
  have F_a1_state := F_a1_state.same W41
  have F_a1_outTradeNo := F_a1_outTradeNo.other W41 (Or.inr (slot_ne (Or.inr (hw _ (List.mem_of_getElem? (i := 54) rfl))) (Or.inr (hw _ (List.mem_of_getElem? (i := 58) rfl))) (by decide) (t := (.object "java/lang/String")) (t' := (.object "java/lang/String")) (by decide) (by decide)))
  have F_a1_outRefundNo := F_a1_outRefundNo.other W41 (Or.inr (slot_ne (Or.inr (hw _ (List.mem_of_getElem? (i := 56) rfl))) (Or.inr (hw _ (List.mem_of_getElem? (i := 58) rfl))) (by decide) (t := (.object "java/lang/String")) (t' := (.object "java/lang/String")) (by decide) (by decide)))
  have F_a1_standing := F_a1_standing.other W41 (Or.inr (slot_ne (Or.inr (hw _ (List.mem_of_getElem? (i := 60) rfl))) (Or.inr (hw _ (List.mem_of_getElem? (i := 58) rfl))) (by decide) (t := (.object "com/example/tillbridge/tillbridge/channel/Bill$Standing")) (t' := (.object "java/lang/String")) (by decide) (by decide)))
  have F_a1_amount := F_a1_amount.other W41 (Or.inr (slot_ne (Or.inr (hw _ (List.mem_of_getElem? (i := 62) rfl))) (Or.inr (hw _ (List.mem_of_getElem? (i := 58) rfl))) (by decide) (t := .long) (t' := (.object "java/lang/String")) (by decide) (by decide)))
  have F_a1_couponRefund := F_a1_couponRefund.other W41 (Or.inr (slot_ne (Or.inr (hw _ (List.mem_of_getElem? (i := 64) rfl))) (Or.inr (hw _ (List.mem_of_getElem? (i := 58) rfl))) (by decide) (t := .long) (t' := (.object "java/lang/String")) (by decide) (by decide)))
  have F_a1_fee := F_a1_fee.other W41 (Or.inr (slot_ne (Or.inr (hw _ (List.mem_of_getElem? (i := 66) rfl))) (Or.inr (hw _ (List.mem_of_getElem? (i := 58) rfl))) (by decide) (t := .long) (t' := (.object "java/lang/String")) (by decide) (by decide)))
  have E_a1 := E_a1.wr W41
  have K0 := K0.wr W41 (Or.inl (List.mem_of_getElem? (i := 0) rfl))
  have Z0 := own_szW Z0 W41
  refine ownVia st41 ?_
  show ownFin _ _ _ _ _ (T41.setTop (mkF m 62 #[.val (.ref a1), .val (.ref a2), .val .null, .val .null, .val (.ref a5), .val (.long q1), .second, .val (.long q2), .second, .val (.long q3), .second] []))
  refine ownVia (fun _ k => XS.aloadN X41.here hx rfl (hb hby d7_62) rfl rfl k) ?_
  show ownFin _ _ _ _ _ (T41.setTop (mkF m 63 #[.val (.ref a1), .val (.ref a2), .val .null, .val .null, .val (.ref a5), .val (.long q1), .second, .val (.long q2), .second, .val (.long q3), .second] [(.ref a1)]))
  refine ownVia (fun _ k => XS.aload X41.here hx rfl (hb hby d7_63) rfl rfl k) ?_
  show ownFin _ _ _ _ _ (T41.setTop (mkF m 65 #[.val (.ref a1), .val (.ref a2), .val .null, .val .null, .val (.ref a5), .val (.long q1), .second, .val (.long q2), .second, .val (.long q3), .second] [(.ref a5), (.ref a1)]))
  obtain ⟨T42, h42, X42, e42, W42, st42⟩ := putF X41 hx hZ hown (host := "") (Or.inl (hw _ (List.mem_of_getElem? (i := 59) rfl))) Via.refl e41 F_a1_standing E_a1 (Or.inr ⟨(hw _ (List.mem_of_getElem? (i := 60) rfl)), rfl, hnm⟩) (hw _ (List.mem_of_getElem? (i := 36) rfl)) (ty := (.object "com/example/tillbridge/tillbridge/channel/Bill$Standing")) (by decide) rfl rfl (g := (mkF m 65 #[.val (.ref a1), .val (.ref a2), .val .null, .val .null, .val (.ref a5), .val (.long q1), .second, .val (.long q2), .second, .val (.long q3), .second] [(.ref a5), (.ref a1)])) rfl rfl (hb hby d7_65)
  have N42 := Fr.snoc X42 N41 ge_a1
  have F_a1_standing := F_a1_standing.same W42
  have F_a1_outTradeNo := F_a1_outTradeNo.other W42 (Or.inr (slot_ne (Or.inr (hw _ (List.mem_of_getElem? (i := 54) rfl))) (Or.inr (hw _ (List.mem_of_getElem? (i := 60) rfl))) (by decide) (t := (.object "java/lang/String")) (t' := (.object "com/example/tillbridge/tillbridge/channel/Bill$Standing")) (by decide) (by decide)))
  have F_a1_outRefundNo := F_a1_outRefundNo.other W42 (Or.inr (slot_ne (Or.inr (hw _ (List.mem_of_getElem? (i := 56) rfl))) (Or.inr (hw _ (List.mem_of_getElem? (i := 60) rfl))) (by decide) (t := (.object "java/lang/String")) (t' := (.object "com/example/tillbridge/tillbridge/channel/Bill$Standing")) (by decide) (by decide)))
  have F_a1_state := F_a1_state.other W42 (Or.inr (slot_ne (Or.inr (hw _ (List.mem_of_getElem? (i := 58) rfl))) (Or.inr (hw _ (List.mem_of_getElem? (i := 60) rfl))) (by decide) (t := (.object "java/lang/String")) (t' := (.object "com/example/tillbridge/tillbridge/channel/Bill$Standing")) (by decide) (by decide)))
  have F_a1_amount := F_a1_amount.other W42 (Or.inr (slot_ne (Or.inr (hw _ (List.mem_of_getElem? (i := 62) rfl))) (Or.inr (hw _ (List.mem_of_getElem? (i := 60) rfl))) (by decide) (t := .long) (t' := (.object "com/example/tillbridge/tillbridge/channel/Bill$Standing")) (by decide) (by decide)))
  have F_a1_couponRefund := F_a1_couponRefund.other W42 (Or.inr (slot_ne (Or.inr (hw _ (List.mem_of_getElem? (i := 64) rfl))) (Or.inr (hw _ (List.mem_of_getElem? (i := 60) rfl))) (by decide) (t := .long) (t' := (.object "com/example/tillbridge/tillbridge/channel/Bill$Standing")) (by decide) (by decide)))
  have F_a1_fee := F_a1_fee.other W42 (Or.inr (slot_ne (Or.inr (hw _ (List.mem_of_getElem? (i := 66) rfl))) (Or.inr (hw _ (List.mem_of_getElem? (i := 60) rfl))) (by decide) (t := .long) (t' := (.object "com/example/tillbridge/tillbridge/channel/Bill$Standing")) (by decide) (by decide)))
  have E_a1 := E_a1.wr W42
  have K0 := K0.wr W42 (Or.inl (List.mem_of_getElem? (i := 0) rfl))
  have Z0 := own_szW Z0 W42
  refine ownVia st42 ?_
  show ownFin _ _ _ _ _ (T42.setTop (mkF m 68 #[.val (.ref a1), .val (.ref a2), .val .null, .val .null, .val (.ref a5), .val (.long q1), .second, .val (.long q2), .second, .val (.long q3), .second] []))
  refine ownVia (fun _ k => XS.aloadN X42.here hx rfl (hb hby d7_68) rfl rfl k) ?_
  show ownFin _ _ _ _ _ (T42.setTop (mkF m 69 #[.val (.ref a1), .val (.ref a2), .val .null, .val .null, .val (.ref a5), .val (.long q1), .second, .val (.long q2), .second, .val (.long q3), .second] [(.ref a1)]))
  refine ownVia (fun _ k => XS.lload X42.here hx rfl (hb hby d7_69) rfl k) ?_
  show ownFin _ _ _ _ _ (T42.setTop (mkF m 71 #[.val (.ref a1), .val (.ref a2), .val .null, .val .null, .val (.ref a5), .val (.long q1), .second, .val (.long q2), .second, .val (.long q3), .second] [(.long q1), (.ref a1)]))
  obtain ⟨T43, h43, X43, e43, W43, st43⟩ := putF X42 hx hZ hown (host := "") (Or.inl (hw _ (List.mem_of_getElem? (i := 61) rfl))) Via.refl e42 F_a1_amount E_a1 (Or.inr ⟨(hw _ (List.mem_of_getElem? (i := 62) rfl)), rfl, hnm⟩) (hw _ (List.mem_of_getElem? (i := 36) rfl)) (ty := .long) (by decide) rfl rfl (g := (mkF m 71 #[.val (.ref a1), .val (.ref a2), .val .null, .val .null, .val (.ref a5), .val (.long q1), .second, .val (.long q2), .second, .val (.long q3), .second] [(.long q1), (.ref a1)])) rfl rfl (hb hby d7_71)
  have N43 := Fr.snoc X43 N42 ge_a1
  have F_a1_amount := F_a1_amount.same W43
  have F_a1_outTradeNo := F_a1_outTradeNo.other W43 (Or.inr (slot_ne (Or.inr (hw _ (List.mem_of_getElem? (i := 54) rfl))) (Or.inr (hw _ (List.mem_of_getElem? (i := 62) rfl))) (by decide) (t := (.object "java/lang/String")) (t' := .long) (by decide) (by decide)))
  have F_a1_outRefundNo := F_a1_outRefundNo.other W43 (Or.inr (slot_ne (Or.inr (hw _ (List.mem_of_getElem? (i := 56) rfl))) (Or.inr (hw _ (List.mem_of_getElem? (i := 62) rfl))) (by decide) (t := (.object "java/lang/String")) (t' := .long) (by decide) (by decide)))
  have F_a1_state := F_a1_state.other W43 (Or.inr (slot_ne (Or.inr (hw _ (List.mem_of_getElem? (i := 58) rfl))) (Or.inr (hw _ (List.mem_of_getElem? (i := 62) rfl))) (by decide) (t := (.object "java/lang/String")) (t' := .long) (by decide) (by decide)))
  have F_a1_standing := F_a1_standing.other W43 (Or.inr (slot_ne (Or.inr (hw _ (List.mem_of_getElem? (i := 60) rfl))) (Or.inr (hw _ (List.mem_of_getElem? (i := 62) rfl))) (by decide) (t := (.object "com/example/tillbridge/tillbridge/channel/Bill$Standing")) (t' := .long) (by decide) (by decide)))
  have F_a1_couponRefund := F_a1_couponRefund.other W43 (Or.inr (slot_ne (Or.inr (hw _ (List.mem_of_getElem? (i := 64) rfl))) (Or.inr (hw _ (List.mem_of_getElem? (i := 62) rfl))) (by decide) (t := .long) (t' := .long) (by decide) (by decide)))
  have F_a1_fee := F_a1_fee.other W43 (Or.inr (slot_ne (Or.inr (hw _ (List.mem_of_getElem? (i := 66) rfl))) (Or.inr (hw _ (List.mem_of_getElem? (i := 62) rfl))) (by decide) (t := .long) (t' := .long) (by decide) (by decide)))
  have E_a1 := E_a1.wr W43
  have K0 := K0.wr W43 (Or.inl (List.mem_of_getElem? (i := 0) rfl))
  have Z0 := own_szW Z0 W43
  refine ownVia st43 ?_
  show ownFin _ _ _ _ _ (T43.setTop (mkF m 74 #[.val (.ref a1), .val (.ref a2), .val .null, .val .null, .val (.ref a5), .val (.long q1), .second, .val (.long q2), .second, .val (.long q3), .second] []))
  refine ownVia (fun _ k => XS.aloadN X43.here hx rfl (hb hby d7_74) rfl rfl k) ?_
  show ownFin _ _ _ _ _ (T43.setTop (mkF m 75 #[.val (.ref a1), .val (.ref a2), .val .null, .val .null, .val (.ref a5), .val (.long q1), .second, .val (.long q2), .second, .val (.long q3), .second] [(.ref a1)]))
  refine ownVia (fun _ k => XS.lload X43.here hx rfl (hb hby d7_75) rfl k) ?_
  show ownFin _ _ _ _ _ (T43.setTop (mkF m 77 #[.val (.ref a1), .val (.ref a2), .val .null, .val .null, .val (.ref a5), .val (.long q1), .second, .val (.long q2), .second, .val (.long q3), .second] [(.long q2), (.ref a1)]))
  obtain ⟨T44, h44, X44, e44, W44, st44⟩ := putF X43 hx hZ hown (host := "") (Or.inl (hw _ (List.mem_of_getElem? (i := 63) rfl))) Via.refl e43 F_a1_couponRefund E_a1 (Or.inr ⟨(hw _ (List.mem_of_getElem? (i := 64) rfl)), rfl, hnm⟩) (hw _ (List.mem_of_getElem? (i := 36) rfl)) (ty := .long) (by decide) rfl rfl (g := (mkF m 77 #[.val (.ref a1), .val (.ref a2), .val .null, .val .null, .val (.ref a5), .val (.long q1), .second, .val (.long q2), .second, .val (.long q3), .second] [(.long q2), (.ref a1)])) rfl rfl (hb hby d7_77)
  have N44 := Fr.snoc X44 N43 ge_a1
  have F_a1_couponRefund := F_a1_couponRefund.same W44
  have F_a1_outTradeNo := F_a1_outTradeNo.other W44 (Or.inr (slot_ne (Or.inr (hw _ (List.mem_of_getElem? (i := 54) rfl))) (Or.inr (hw _ (List.mem_of_getElem? (i := 64) rfl))) (by decide) (t := (.object "java/lang/String")) (t' := .long) (by decide) (by decide)))
  have F_a1_outRefundNo := F_a1_outRefundNo.other W44 (Or.inr (slot_ne (Or.inr (hw _ (List.mem_of_getElem? (i := 56) rfl))) (Or.inr (hw _ (List.mem_of_getElem? (i := 64) rfl))) (by decide) (t := (.object "java/lang/String")) (t' := .long) (by decide) (by decide)))
  have F_a1_state := F_a1_state.other W44 (Or.inr (slot_ne (Or.inr (hw _ (List.mem_of_getElem? (i := 58) rfl))) (Or.inr (hw _ (List.mem_of_getElem? (i := 64) rfl))) (by decide) (t := (.object "java/lang/String")) (t' := .long) (by decide) (by decide)))
  have F_a1_standing := F_a1_standing.other W44 (Or.inr (slot_ne (Or.inr (hw _ (List.mem_of_getElem? (i := 60) rfl))) (Or.inr (hw _ (List.mem_of_getElem? (i := 64) rfl))) (by decide) (t := (.object "com/example/tillbridge/tillbridge/channel/Bill$Standing")) (t' := .long) (by decide) (by decide)))
  have F_a1_amount := F_a1_amount.other W44 (Or.inr (slot_ne (Or.inr (hw _ (List.mem_of_getElem? (i := 62) rfl))) (Or.inr (hw _ (List.mem_of_getElem? (i := 64) rfl))) (by decide) (t := .long) (t' := .long) (by decide) (by decide)))
  have F_a1_fee := F_a1_fee.other W44 (Or.inr (slot_ne (Or.inr (hw _ (List.mem_of_getElem? (i := 66) rfl))) (Or.inr (hw _ (List.mem_of_getElem? (i := 64) rfl))) (by decide) (t := .long) (t' := .long) (by decide) (by decide)))
  have E_a1 := E_a1.wr W44
  have K0 := K0.wr W44 (Or.inl (List.mem_of_getElem? (i := 0) rfl))
  have Z0 := own_szW Z0 W44
  refine ownVia st44 ?_
  show ownFin _ _ _ _ _ (T44.setTop (mkF m 80 #[.val (.ref a1), .val (.ref a2), .val .null, .val .null, .val (.ref a5), .val (.long q1), .second, .val (.long q2), .second, .val (.long q3), .second] []))
  refine ownVia (fun _ k => XS.aloadN X44.here hx rfl (hb hby d7_80) rfl rfl k) ?_
  show ownFin _ _ _ _ _ (T44.setTop (mkF m 81 #[.val (.ref a1), .val (.ref a2), .val .null, .val .null, .val (.ref a5), .val (.long q1), .second, .val (.long q2), .second, .val (.long q3), .second] [(.ref a1)]))
  refine ownVia (fun _ k => XS.lload X44.here hx rfl (hb hby d7_81) rfl k) ?_
  show ownFin _ _ _ _ _ (T44.setTop (mkF m 83 #[.val (.ref a1), .val (.ref a2), .val .null, .val .null, .val (.ref a5), .val (.long q1), .second, .val (.long q2), .second, .val (.long q3), .second] [(.long q3), (.ref a1)]))
  obtain ⟨T45, h45, X45, e45, W45, st45⟩ := putF X44 hx hZ hown (host := "") (Or.inl (hw _ (List.mem_of_getElem? (i := 65) rfl))) Via.refl e44 F_a1_fee E_a1 (Or.inr ⟨(hw _ (List.mem_of_getElem? (i := 66) rfl)), rfl, hnm⟩) (hw _ (List.mem_of_getElem? (i := 36) rfl)) (ty := .long) (by decide) rfl rfl (g := (mkF m 83 #[.val (.ref a1), .val (.ref a2), .val .null, .val .null, .val (.ref a5), .val (.long q1), .second, .val (.long q2), .second, .val (.long q3), .second] [(.long q3), (.ref a1)])) rfl rfl (hb hby d7_83)
  have N45 := Fr.snoc X45 N44 ge_a1
  have F_a1_fee := F_a1_fee.same W45
  have F_a1_outTradeNo := F_a1_outTradeNo.other W45 (Or.inr (slot_ne (Or.inr (hw _ (List.mem_of_getElem? (i := 54) rfl))) (Or.inr (hw _ (List.mem_of_getElem? (i := 66) rfl))) (by decide) (t := (.object "java/lang/String")) (t' := .long) (by decide) (by decide)))
  have F_a1_outRefundNo := F_a1_outRefundNo.other W45 (Or.inr (slot_ne (Or.inr (hw _ (List.mem_of_getElem? (i := 56) rfl))) (Or.inr (hw _ (List.mem_of_getElem? (i := 66) rfl))) (by decide) (t := (.object "java/lang/String")) (t' := .long) (by decide) (by decide)))
  have F_a1_state := F_a1_state.other W45 (Or.inr (slot_ne (Or.inr (hw _ (List.mem_of_getElem? (i := 58) rfl))) (Or.inr (hw _ (List.mem_of_getElem? (i := 66) rfl))) (by decide) (t := (.object "java/lang/String")) (t' := .long) (by decide) (by decide)))
  have F_a1_standing := F_a1_standing.other W45 (Or.inr (slot_ne (Or.inr (hw _ (List.mem_of_getElem? (i := 60) rfl))) (Or.inr (hw _ (List.mem_of_getElem? (i := 66) rfl))) (by decide) (t := (.object "com/example/tillbridge/tillbridge/channel/Bill$Standing")) (t' := .long) (by decide) (by decide)))
  have F_a1_amount := F_a1_amount.other W45 (Or.inr (slot_ne (Or.inr (hw _ (List.mem_of_getElem? (i := 62) rfl))) (Or.inr (hw _ (List.mem_of_getElem? (i := 66) rfl))) (by decide) (t := .long) (t' := .long) (by decide) (by decide)))
  have F_a1_couponRefund := F_a1_couponRefund.other W45 (Or.inr (slot_ne (Or.inr (hw _ (List.mem_of_getElem? (i := 64) rfl))) (Or.inr (hw _ (List.mem_of_getElem? (i := 66) rfl))) (by decide) (t := .long) (t' := .long) (by decide) (by decide)))
  have E_a1 := E_a1.wr W45
  have K0 := K0.wr W45 (Or.inl (List.mem_of_getElem? (i := 0) rfl))
  have Z0 := own_szW Z0 W45
  refine ownVia st45 ?_
  show ownFin _ _ _ _ _ (T45.setTop (mkF m 86 #[.val (.ref a1), .val (.ref a2), .val .null, .val .null, .val (.ref a5), .val (.long q1), .second, .val (.long q2), .second, .val (.long q3), .second] []))
  refine ownRetV X45 hx hlk hret (hb hby d7_86) (by decide) (by decide) ?_
  show (Q_own_line_nn Z a1 a2 a5 q1 q2 q3 h0 n0 ) none T45.heap _
  rw [e45]
  exact ⟨rfl, N45, K0, F_a1_outRefundNo⟩
theorem own_ef46 (m : MethodId) (a1 : Addr) (a2 : Addr) (a4 : Addr) (a5 : Addr) (q1 : Int64) (q2 : Int64) (q3 : Int64) : entryFrame m #[(.ref a1), (.ref a2), .null, (.ref a4), (.ref a5), (.long q1), (.long q2), (.long q3)] 11 = mkF m 0 #[.val (.ref a1), .val (.ref a2), .val .null, .val (.ref a4), .val (.ref a5), .val (.long q1), .second, .val (.long q2), .second, .val (.long q3), .second] [] := by first | (simp [entryFrame, mkF, argsToLocals, Value.category]; done) | rfl
def Q_own_line_nr (Z : State) (a1 : Addr) (a2 : Addr) (a4 : Addr) (a5 : Addr) (q1 : Int64) (q2 : Int64) (q3 : Int64) (h0 : Heap) (n0 : Nat)  : Option Value → Heap → List Loc → Prop := fun v h L => v = none ∧ Fr n0 L ∧ Keep h0 h [a1] ∧ Fld Z h a1 "com/example/tillbridge/tillbridge/channel/Bill$Line" "outRefundNo" "Ljava/lang/String;" .null
set_option maxRecDepth 65536 in
set_option maxHeartbeats 40000000 in
theorem own_line_nr (l : Launch) (Z : State) (a0 : Array Value) (hw : ∀ d ∈ tables_1, d.before a0 Z = true)  (a1 : Addr) (a2 : Addr) (a4 : Addr) (a5 : Addr) (q1 : Int64) (q2 : Int64) (q3 : Int64) (h0 : Heap) (n0 : Nat)  (Z0 : n0 ≤ h0.size) (F_a1_outTradeNo : Fld Z h0 a1 "com/example/tillbridge/tillbridge/channel/Bill$Line" "outTradeNo" "Ljava/lang/String;" .null) (F_a1_outRefundNo : Fld Z h0 a1 "com/example/tillbridge/tillbridge/channel/Bill$Line" "outRefundNo" "Ljava/lang/String;" .null) (F_a1_state : Fld Z h0 a1 "com/example/tillbridge/tillbridge/channel/Bill$Line" "state" "Ljava/lang/String;" .null) (F_a1_standing : Fld Z h0 a1 "com/example/tillbridge/tillbridge/channel/Bill$Line" "standing" "Lcom/example/tillbridge/tillbridge/channel/Bill$Standing;" .null) (F_a1_amount : Fld Z h0 a1 "com/example/tillbridge/tillbridge/channel/Bill$Line" "amount" "J" (.long (0 : Int64))) (F_a1_couponRefund : Fld Z h0 a1 "com/example/tillbridge/tillbridge/channel/Bill$Line" "couponRefund" "J" (.long (0 : Int64))) (F_a1_fee : Fld Z h0 a1 "com/example/tillbridge/tillbridge/channel/Bill$Line" "fee" "J" (.long (0 : Int64))) (E_a1 : Exa Z h0 a1 "com/example/tillbridge/tillbridge/channel/Bill$Line") (ge_a1 : n0 ≤ a1) (h1 : own_la q1 = 1) (h2 : own_la q2 = 1) (h3 : own_la q3 = 1) :
    ownMet l Z (⟨"com/example/tillbridge/tillbridge/channel/Bill$Line", "<init>", "(Ljava/lang/String;Ljava/lang/String;Ljava/lang/String;Lcom/example/tillbridge/tillbridge/channel/Bill$Standing;JJJ)V"⟩ : MethodName) prog_7_method_1_code 11 none [] ({ frames := 2, cells := 0, slots := 0, locals := 40 } : Room) #[(.ref a1), (.ref a2), .null, (.ref a4), (.ref a5), (.long q1), (.long q2), (.long q3)] h0 (Q_own_line_nr Z a1 a2 a4 a5 q1 q2 q3 h0 n0 ) := by
  refine ownBody (plainFor_of_name own_pn5) ?_
  intro p e s m below meth c T0 hx hby hml hret hlk hZ hown hnm X0 e0
  have N0 : Fr n0 [] := Fr.nil n0
  refine ownVia (fun _ k => castTop (own_ef46 m a1 a2 a4 a5 q1 q2 q3) k) ?_
  show ownFin _ _ _ _ _ (T0.setTop (mkF m 0 #[.val (.ref a1), .val (.ref a2), .val .null, .val (.ref a4), .val (.ref a5), .val (.long q1), .second, .val (.long q2), .second, .val (.long q3), .second] []))
  have K0 : Keep h0 h0 [a1] := Keep.refl _ _
  refine ownVia (fun _ k => XS.aloadN X0.here hx rfl (hb hby d7_0) rfl rfl k) ?_
  show ownFin _ _ _ _ _ (T0.setTop (mkF m 1 #[.val (.ref a1), .val (.ref a2), .val .null, .val (.ref a4), .val (.ref a5), .val (.long q1), .second, .val (.long q2), .second, .val (.long q3), .second] [(.ref a1)]))
  refine ownCallN X0 hx hZ hown rfl (hw _ (List.mem_of_getElem? (i := 41) rfl)) (hw _ (List.mem_of_getElem? (i := 42) rfl)) (hw _ (List.mem_of_getElem? (i := 44) rfl)) (hw _ (List.mem_of_getElem? (i := 45) rfl)) (by decide) e0 (own_rec l Z a0 hw a1 h0 n0 Z0) (by rw [hml]; rfl) a1 [] [] (lenOf own_pd3 rfl) rfl rfl 0 rfl (hb hby d7_1) (by decide) (by decide) (by decide) (by decide) ?_
  intro v47 T47 L47 X47 hq47
  obtain ⟨rfl, N47q, eq47⟩ := hq47
  have N47 := Fr.app N0 N47q
  have e47 : T47.heap = h0 := eq47
  show ownFin _ _ _ _ _ (T47.setTop (mkF m 4 #[.val (.ref a1), .val (.ref a2), .val .null, .val (.ref a4), .val (.ref a5), .val (.long q1), .second, .val (.long q2), .second, .val (.long q3), .second] []))
  refine ownVia (fun _ k => XS.lload X47.here hx rfl (hb hby d7_4) rfl k) ?_
  show ownFin _ _ _ _ _ (T47.setTop (mkF m 6 #[.val (.ref a1), .val (.ref a2), .val .null, .val (.ref a4), .val (.ref a5), .val (.long q1), .second, .val (.long q2), .second, .val (.long q3), .second] [(.long q1)]))
  refine ownCallS X47 hx hZ hown (hw _ (List.mem_of_getElem? (i := 47) rfl)) (hw _ (List.mem_of_getElem? (i := 48) rfl)) (hw _ (List.mem_of_getElem? (i := 49) rfl)) (hw _ (List.mem_of_getElem? (i := 50) rfl)) (by decide) e47 (own_isla l Z a0 hw q1 h0 n0 Z0) (by rw [hml]; rfl) [(.long q1)] [] (lenOf own_pd4 rfl) rfl rfl 0 rfl (hb hby d7_6) (by decide) (by decide) (by decide) (by decide) ?_
  intro v48 T48 L48 X48 hq48
  obtain ⟨rfl, N48q, eq48⟩ := hq48
  have N48 := Fr.app N47 N48q
  have e48 : T48.heap = h0 := eq48
  show ownFin _ _ _ _ _ (T48.setTop (mkF m 9 #[.val (.ref a1), .val (.ref a2), .val .null, .val (.ref a4), .val (.ref a5), .val (.long q1), .second, .val (.long q2), .second, .val (.long q3), .second] [(.int (own_la q1))]))
  refine ownVia (fun _ k => XS.ifNo X48.here hx rfl (hb hby d7_9) rfl ((if0 _ _).trans (feq (by rw [h1]; decide)).1) k) ?_
  show ownFin _ _ _ _ _ (T48.setTop (mkF m 12 #[.val (.ref a1), .val (.ref a2), .val .null, .val (.ref a4), .val (.ref a5), .val (.long q1), .second, .val (.long q2), .second, .val (.long q3), .second] []))
  refine ownVia (fun _ k => XS.lload X48.here hx rfl (hb hby d7_12) rfl k) ?_
  show ownFin _ _ _ _ _ (T48.setTop (mkF m 14 #[.val (.ref a1), .val (.ref a2), .val .null, .val (.ref a4), .val (.ref a5), .val (.long q1), .second, .val (.long q2), .second, .val (.long q3), .second] [(.long q2)]))
  refine ownCallS X48 hx hZ hown (hw _ (List.mem_of_getElem? (i := 47) rfl)) (hw _ (List.mem_of_getElem? (i := 48) rfl)) (hw _ (List.mem_of_getElem? (i := 49) rfl)) (hw _ (List.mem_of_getElem? (i := 50) rfl)) (by decide) e48 (own_isla l Z a0 hw q2 h0 n0 Z0) (by rw [hml]; rfl) [(.long q2)] [] (lenOf own_pd4 rfl) rfl rfl 0 rfl (hb hby d7_14) (by decide) (by decide) (by decide) (by decide) ?_
  intro v49 T49 L49 X49 hq49
  obtain ⟨rfl, N49q, eq49⟩ := hq49
  have N49 := Fr.app N48 N49q
  have e49 : T49.heap = h0 := eq49
  show ownFin _ _ _ _ _ (T49.setTop (mkF m 17 #[.val (.ref a1), .val (.ref a2), .val .null, .val (.ref a4), .val (.ref a5), .val (.long q1), .second, .val (.long q2), .second, .val (.long q3), .second] [(.int (own_la q2))]))
  refine ownVia (fun _ k => XS.ifNo X49.here hx rfl (hb hby d7_17) rfl ((if0 _ _).trans (feq (by rw [h2]; decide)).1) k) ?_
  show ownFin _ _ _ _ _ (T49.setTop (mkF m 20 #[.val (.ref a1), .val (.ref a2), .val .null, .val (.ref a4), .val (.ref a5), .val (.long q1), .second, .val (.long q2), .second, .val (.long q3), .second] []))
  refine ownVia (fun _ k => XS.lload X49.here hx rfl (hb hby d7_20) rfl k) ?_
  show ownFin _ _ _ _ _ (T49.setTop (mkF m 22 #[.val (.ref a1), .val (.ref a2), .val .null, .val (.ref a4), .val (.ref a5), .val (.long q1), .second, .val (.long q2), .second, .val (.long q3), .second] [(.long q3)]))
  refine ownCallS X49 hx hZ hown (hw _ (List.mem_of_getElem? (i := 47) rfl)) (hw _ (List.mem_of_getElem? (i := 48) rfl)) (hw _ (List.mem_of_getElem? (i := 49) rfl)) (hw _ (List.mem_of_getElem? (i := 50) rfl)) (by decide) e49 (own_isla l Z a0 hw q3 h0 n0 Z0) (by rw [hml]; rfl) [(.long q3)] [] (lenOf own_pd4 rfl) rfl rfl 0 rfl (hb hby d7_22) (by decide) (by decide) (by decide) (by decide) ?_
  intro v50 T50 L50 X50 hq50
  obtain ⟨rfl, N50q, eq50⟩ := hq50
  have N50 := Fr.app N49 N50q
  have e50 : T50.heap = h0 := eq50
  show ownFin _ _ _ _ _ (T50.setTop (mkF m 25 #[.val (.ref a1), .val (.ref a2), .val .null, .val (.ref a4), .val (.ref a5), .val (.long q1), .second, .val (.long q2), .second, .val (.long q3), .second] [(.int (own_la q3))]))
  refine ownVia (fun _ k => XS.ifYes X50.here hx rfl (pc0 := 25) (pc' := 47) rfl (hb hby d7_25) rfl ((if0 _ _).trans (feq (by rw [h3]; decide)).2) (by decide) (by decide) k) ?_
  show ownFin _ _ _ _ _ (T50.setTop (mkF m 47 #[.val (.ref a1), .val (.ref a2), .val .null, .val (.ref a4), .val (.ref a5), .val (.long q1), .second, .val (.long q2), .second, .val (.long q3), .second] []))
  refine ownVia (fun _ k => XS.aloadN X50.here hx rfl (hb hby d7_47) rfl rfl k) ?_
  show ownFin _ _ _ _ _ (T50.setTop (mkF m 48 #[.val (.ref a1), .val (.ref a2), .val .null, .val (.ref a4), .val (.ref a5), .val (.long q1), .second, .val (.long q2), .second, .val (.long q3), .second] [(.ref a1)]))
  refine ownVia (fun _ k => XS.aloadN X50.here hx rfl (hb hby d7_48) rfl rfl k) ?_
  show ownFin _ _ _ _ _ (T50.setTop (mkF m 49 #[.val (.ref a1), .val (.ref a2), .val .null, .val (.ref a4), .val (.ref a5), .val (.long q1), .second, .val (.long q2), .second, .val (.long q3), .second] [(.ref a2), (.ref a1)]))
  obtain ⟨T51, h51, X51, e51, W51, st51⟩ := putF X50 hx hZ hown (host := "") (Or.inl (hw _ (List.mem_of_getElem? (i := 53) rfl))) Via.refl e50 F_a1_outTradeNo E_a1 (Or.inr ⟨(hw _ (List.mem_of_getElem? (i := 54) rfl)), rfl, hnm⟩) (hw _ (List.mem_of_getElem? (i := 36) rfl)) (ty := (.object "java/lang/String")) (by decide) rfl rfl (g := (mkF m 49 #[.val (.ref a1), .val (.ref a2), .val .null, .val (.ref a4), .val (.ref a5), .val (.long q1), .second, .val (.long q2), .second, .val (.long q3), .second] [(.ref a2), (.ref a1)])) rfl rfl (hb hby d7_49)
  have N51 := Fr.snoc X51 N50 ge_a1
  have F_a1_outTradeNo := F_a1_outTradeNo.same W51
  have F_a1_outRefundNo := F_a1_outRefundNo.other W51 (Or.inr (slot_ne (Or.inr (hw _ (List.mem_of_getElem? (i := 56) rfl))) (Or.inr (hw _ (List.mem_of_getElem? (i := 54) rfl))) (by decide) (t := (.object "java/lang/String")) (t' := (.object "java/lang/String")) (by decide) (by decide)))
  have F_a1_state := F_a1_state.other W51 (Or.inr (slot_ne (Or.inr (hw _ (List.mem_of_getElem? (i := 58) rfl))) (Or.inr (hw _ (List.mem_of_getElem? (i := 54) rfl))) (by decide) (t := (.object "java/lang/String")) (t' := (.object "java/lang/String")) (by decide) (by decide)))
  have F_a1_standing := F_a1_standing.other W51 (Or.inr (slot_ne (Or.inr (hw _ (List.mem_of_getElem? (i := 60) rfl))) (Or.inr (hw _ (List.mem_of_getElem? (i := 54) rfl))) (by decide) (t := (.object "com/example/tillbridge/tillbridge/channel/Bill$Standing")) (t' := (.object "java/lang/String")) (by decide) (by decide)))
  have F_a1_amount := F_a1_amount.other W51 (Or.inr (slot_ne (Or.inr (hw _ (List.mem_of_getElem? (i := 62) rfl))) (Or.inr (hw _ (List.mem_of_getElem? (i := 54) rfl))) (by decide) (t := .long) (t' := (.object "java/lang/String")) (by decide) (by decide)))
  have F_a1_couponRefund := F_a1_couponRefund.other W51 (Or.inr (slot_ne (Or.inr (hw _ (List.mem_of_getElem? (i := 64) rfl))) (Or.inr (hw _ (List.mem_of_getElem? (i := 54) rfl))) (by decide) (t := .long) (t' := (.object "java/lang/String")) (by decide) (by decide)))
  have F_a1_fee := F_a1_fee.other W51 (Or.inr (slot_ne (Or.inr (hw _ (List.mem_of_getElem? (i := 66) rfl))) (Or.inr (hw _ (List.mem_of_getElem? (i := 54) rfl))) (by decide) (t := .long) (t' := (.object "java/lang/String")) (by decide) (by decide)))
  have E_a1 := E_a1.wr W51
  have K0 := K0.wr W51 (Or.inl (List.mem_of_getElem? (i := 0) rfl))
  have Z0 := own_szW Z0 W51
  refine ownVia st51 ?_
  show ownFin _ _ _ _ _ (T51.setTop (mkF m 52 #[.val (.ref a1), .val (.ref a2), .val .null, .val (.ref a4), .val (.ref a5), .val (.long q1), .second, .val (.long q2), .second, .val (.long q3), .second] []))
  refine ownVia (fun _ k => XS.aloadN X51.here hx rfl (hb hby d7_52) rfl rfl k) ?_
  show ownFin _ _ _ _ _ (T51.setTop (mkF m 53 #[.val (.ref a1), .val (.ref a2), .val .null, .val (.ref a4), .val (.ref a5), .val (.long q1), .second, .val (.long q2), .second, .val (.long q3), .second] [(.ref a1)]))
  refine ownVia (fun _ k => XS.aloadN X51.here hx rfl (hb hby d7_53) rfl rfl k) ?_
  show ownFin _ _ _ _ _ (T51.setTop (mkF m 54 #[.val (.ref a1), .val (.ref a2), .val .null, .val (.ref a4), .val (.ref a5), .val (.long q1), .second, .val (.long q2), .second, .val (.long q3), .second] [.null, (.ref a1)]))
  obtain ⟨T52, h52, X52, e52, W52, st52⟩ := putF X51 hx hZ hown (host := "") (Or.inl (hw _ (List.mem_of_getElem? (i := 55) rfl))) Via.refl e51 F_a1_outRefundNo E_a1 (Or.inr ⟨(hw _ (List.mem_of_getElem? (i := 56) rfl)), rfl, hnm⟩) (hw _ (List.mem_of_getElem? (i := 36) rfl)) (ty := (.object "java/lang/String")) (by decide) rfl rfl (g := (mkF m 54 #[.val (.ref a1), .val (.ref a2), .val .null, .val (.ref a4), .val (.ref a5), .val (.long q1), .second, .val (.long q2), .second, .val (.long q3), .second] [.null, (.ref a1)])) rfl rfl (hb hby d7_54)
  have N52 := Fr.snoc X52 N51 ge_a1
  have F_a1_outRefundNo := F_a1_outRefundNo.same W52
  have F_a1_outTradeNo := F_a1_outTradeNo.other W52 (Or.inr (slot_ne (Or.inr (hw _ (List.mem_of_getElem? (i := 54) rfl))) (Or.inr (hw _ (List.mem_of_getElem? (i := 56) rfl))) (by decide) (t := (.object "java/lang/String")) (t' := (.object "java/lang/String")) (by decide) (by decide)))
  have F_a1_state := F_a1_state.other W52 (Or.inr (slot_ne (Or.inr (hw _ (List.mem_of_getElem? (i := 58) rfl))) (Or.inr (hw _ (List.mem_of_getElem? (i := 56) rfl))) (by decide) (t := (.object "java/lang/String")) (t' := (.object "java/lang/String")) (by decide) (by decide)))
  have F_a1_standing := F_a1_standing.other W52 (Or.inr (slot_ne (Or.inr (hw _ (List.mem_of_getElem? (i := 60) rfl))) (Or.inr (hw _ (List.mem_of_getElem? (i := 56) rfl))) (by decide) (t := (.object "com/example/tillbridge/tillbridge/channel/Bill$Standing")) (t' := (.object "java/lang/String")) (by decide) (by decide)))
  have F_a1_amount := F_a1_amount.other W52 (Or.inr (slot_ne (Or.inr (hw _ (List.mem_of_getElem? (i := 62) rfl))) (Or.inr (hw _ (List.mem_of_getElem? (i := 56) rfl))) (by decide) (t := .long) (t' := (.object "java/lang/String")) (by decide) (by decide)))
  have F_a1_couponRefund := F_a1_couponRefund.other W52 (Or.inr (slot_ne (Or.inr (hw _ (List.mem_of_getElem? (i := 64) rfl))) (Or.inr (hw _ (List.mem_of_getElem? (i := 56) rfl))) (by decide) (t := .long) (t' := (.object "java/lang/String")) (by decide) (by decide)))
  have F_a1_fee := F_a1_fee.other W52 (Or.inr (slot_ne (Or.inr (hw _ (List.mem_of_getElem? (i := 66) rfl))) (Or.inr (hw _ (List.mem_of_getElem? (i := 56) rfl))) (by decide) (t := .long) (t' := (.object "java/lang/String")) (by decide) (by decide)))
  have E_a1 := E_a1.wr W52
  have K0 := K0.wr W52 (Or.inl (List.mem_of_getElem? (i := 0) rfl))
  have Z0 := own_szW Z0 W52
  refine ownVia st52 ?_
  show ownFin _ _ _ _ _ (T52.setTop (mkF m 57 #[.val (.ref a1), .val (.ref a2), .val .null, .val (.ref a4), .val (.ref a5), .val (.long q1), .second, .val (.long q2), .second, .val (.long q3), .second] []))
  refine ownVia (fun _ k => XS.aloadN X52.here hx rfl (hb hby d7_57) rfl rfl k) ?_
  show ownFin _ _ _ _ _ (T52.setTop (mkF m 58 #[.val (.ref a1), .val (.ref a2), .val .null, .val (.ref a4), .val (.ref a5), .val (.long q1), .second, .val (.long q2), .second, .val (.long q3), .second] [(.ref a1)]))
  refine ownVia (fun _ k => XS.aloadN X52.here hx rfl (hb hby d7_58) rfl rfl k) ?_
  show ownFin _ _ _ _ _ (T52.setTop (mkF m 59 #[.val (.ref a1), .val (.ref a2), .val .null, .val (.ref a4), .val (.ref a5), .val (.long q1), .second, .val (.long q2), .second, .val (.long q3), .second] [(.ref a4), (.ref a1)]))
  obtain ⟨T53, h53, X53, e53, W53, st53⟩ := putF X52 hx hZ hown (host := "") (Or.inl (hw _ (List.mem_of_getElem? (i := 57) rfl))) Via.refl e52 F_a1_state E_a1 (Or.inr ⟨(hw _ (List.mem_of_getElem? (i := 58) rfl)), rfl, hnm⟩) (hw _ (List.mem_of_getElem? (i := 36) rfl)) (ty := (.object "java/lang/String")) (by decide) rfl rfl (g := (mkF m 59 #[.val (.ref a1), .val (.ref a2), .val .null, .val (.ref a4), .val (.ref a5), .val (.long q1), .second, .val (.long q2), .second, .val (.long q3), .second] [(.ref a4), (.ref a1)])) rfl rfl (hb hby d7_59)
  have N53 := Fr.snoc X53 N52 ge_a1
  have F_a1_state := F_a1_state.same W53
  have F_a1_outTradeNo := F_a1_outTradeNo.other W53 (Or.inr (slot_ne (Or.inr (hw _ (List.mem_of_getElem? (i := 54) rfl))) (Or.inr (hw _ (List.mem_of_getElem? (i := 58) rfl))) (by decide) (t := (.object "java/lang/String")) (t' := (.object "java/lang/String")) (by decide) (by decide)))
  have F_a1_outRefundNo := F_a1_outRefundNo.other W53 (Or.inr (slot_ne (Or.inr (hw _ (List.mem_of_getElem? (i := 56) rfl))) (Or.inr (hw _ (List.mem_of_getElem? (i := 58) rfl))) (by decide) (t := (.object "java/lang/String")) (t' := (.object "java/lang/String")) (by decide) (by decide)))
  have F_a1_standing := F_a1_standing.other W53 (Or.inr (slot_ne (Or.inr (hw _ (List.mem_of_getElem? (i := 60) rfl))) (Or.inr (hw _ (List.mem_of_getElem? (i := 58) rfl))) (by decide) (t := (.object "com/example/tillbridge/tillbridge/channel/Bill$Standing")) (t' := (.object "java/lang/String")) (by decide) (by decide)))
  have F_a1_amount := F_a1_amount.other W53 (Or.inr (slot_ne (Or.inr (hw _ (List.mem_of_getElem? (i := 62) rfl))) (Or.inr (hw _ (List.mem_of_getElem? (i := 58) rfl))) (by decide) (t := .long) (t' := (.object "java/lang/String")) (by decide) (by decide)))
  have F_a1_couponRefund := F_a1_couponRefund.other W53 (Or.inr (slot_ne (Or.inr (hw _ (List.mem_of_getElem? (i := 64) rfl))) (Or.inr (hw _ (List.mem_of_getElem? (i := 58) rfl))) (by decide) (t := .long) (t' := (.object "java/lang/String")) (by decide) (by decide)))
  have F_a1_fee := F_a1_fee.other W53 (Or.inr (slot_ne (Or.inr (hw _ (List.mem_of_getElem? (i := 66) rfl))) (Or.inr (hw _ (List.mem_of_getElem? (i := 58) rfl))) (by decide) (t := .long) (t' := (.object "java/lang/String")) (by decide) (by decide)))
  have E_a1 := E_a1.wr W53
  have K0 := K0.wr W53 (Or.inl (List.mem_of_getElem? (i := 0) rfl))
  have Z0 := own_szW Z0 W53
  refine ownVia st53 ?_
  show ownFin _ _ _ _ _ (T53.setTop (mkF m 62 #[.val (.ref a1), .val (.ref a2), .val .null, .val (.ref a4), .val (.ref a5), .val (.long q1), .second, .val (.long q2), .second, .val (.long q3), .second] []))
  refine ownVia (fun _ k => XS.aloadN X53.here hx rfl (hb hby d7_62) rfl rfl k) ?_
  show ownFin _ _ _ _ _ (T53.setTop (mkF m 63 #[.val (.ref a1), .val (.ref a2), .val .null, .val (.ref a4), .val (.ref a5), .val (.long q1), .second, .val (.long q2), .second, .val (.long q3), .second] [(.ref a1)]))
  refine ownVia (fun _ k => XS.aload X53.here hx rfl (hb hby d7_63) rfl rfl k) ?_
  show ownFin _ _ _ _ _ (T53.setTop (mkF m 65 #[.val (.ref a1), .val (.ref a2), .val .null, .val (.ref a4), .val (.ref a5), .val (.long q1), .second, .val (.long q2), .second, .val (.long q3), .second] [(.ref a5), (.ref a1)]))
  obtain ⟨T54, h54, X54, e54, W54, st54⟩ := putF X53 hx hZ hown (host := "") (Or.inl (hw _ (List.mem_of_getElem? (i := 59) rfl))) Via.refl e53 F_a1_standing E_a1 (Or.inr ⟨(hw _ (List.mem_of_getElem? (i := 60) rfl)), rfl, hnm⟩) (hw _ (List.mem_of_getElem? (i := 36) rfl)) (ty := (.object "com/example/tillbridge/tillbridge/channel/Bill$Standing")) (by decide) rfl rfl (g := (mkF m 65 #[.val (.ref a1), .val (.ref a2), .val .null, .val (.ref a4), .val (.ref a5), .val (.long q1), .second, .val (.long q2), .second, .val (.long q3), .second] [(.ref a5), (.ref a1)])) rfl rfl (hb hby d7_65)
  have N54 := Fr.snoc X54 N53 ge_a1
  have F_a1_standing := F_a1_standing.same W54
  have F_a1_outTradeNo := F_a1_outTradeNo.other W54 (Or.inr (slot_ne (Or.inr (hw _ (List.mem_of_getElem? (i := 54) rfl))) (Or.inr (hw _ (List.mem_of_getElem? (i := 60) rfl))) (by decide) (t := (.object "java/lang/String")) (t' := (.object "com/example/tillbridge/tillbridge/channel/Bill$Standing")) (by decide) (by decide)))
  have F_a1_outRefundNo := F_a1_outRefundNo.other W54 (Or.inr (slot_ne (Or.inr (hw _ (List.mem_of_getElem? (i := 56) rfl))) (Or.inr (hw _ (List.mem_of_getElem? (i := 60) rfl))) (by decide) (t := (.object "java/lang/String")) (t' := (.object "com/example/tillbridge/tillbridge/channel/Bill$Standing")) (by decide) (by decide)))
  have F_a1_state := F_a1_state.other W54 (Or.inr (slot_ne (Or.inr (hw _ (List.mem_of_getElem? (i := 58) rfl))) (Or.inr (hw _ (List.mem_of_getElem? (i := 60) rfl))) (by decide) (t := (.object "java/lang/String")) (t' := (.object "com/example/tillbridge/tillbridge/channel/Bill$Standing")) (by decide) (by decide)))
  have F_a1_amount := F_a1_amount.other W54 (Or.inr (slot_ne (Or.inr (hw _ (List.mem_of_getElem? (i := 62) rfl))) (Or.inr (hw _ (List.mem_of_getElem? (i := 60) rfl))) (by decide) (t := .long) (t' := (.object "com/example/tillbridge/tillbridge/channel/Bill$Standing")) (by decide) (by decide)))
  have F_a1_couponRefund := F_a1_couponRefund.other W54 (Or.inr (slot_ne (Or.inr (hw _ (List.mem_of_getElem? (i := 64) rfl))) (Or.inr (hw _ (List.mem_of_getElem? (i := 60) rfl))) (by decide) (t := .long) (t' := (.object "com/example/tillbridge/tillbridge/channel/Bill$Standing")) (by decide) (by decide)))
  have F_a1_fee := F_a1_fee.other W54 (Or.inr (slot_ne (Or.inr (hw _ (List.mem_of_getElem? (i := 66) rfl))) (Or.inr (hw _ (List.mem_of_getElem? (i := 60) rfl))) (by decide) (t := .long) (t' := (.object "com/example/tillbridge/tillbridge/channel/Bill$Standing")) (by decide) (by decide)))
  have E_a1 := E_a1.wr W54
  have K0 := K0.wr W54 (Or.inl (List.mem_of_getElem? (i := 0) rfl))
  have Z0 := own_szW Z0 W54
  refine ownVia st54 ?_
  show ownFin _ _ _ _ _ (T54.setTop (mkF m 68 #[.val (.ref a1), .val (.ref a2), .val .null, .val (.ref a4), .val (.ref a5), .val (.long q1), .second, .val (.long q2), .second, .val (.long q3), .second] []))
  refine ownVia (fun _ k => XS.aloadN X54.here hx rfl (hb hby d7_68) rfl rfl k) ?_
  show ownFin _ _ _ _ _ (T54.setTop (mkF m 69 #[.val (.ref a1), .val (.ref a2), .val .null, .val (.ref a4), .val (.ref a5), .val (.long q1), .second, .val (.long q2), .second, .val (.long q3), .second] [(.ref a1)]))
  refine ownVia (fun _ k => XS.lload X54.here hx rfl (hb hby d7_69) rfl k) ?_
  show ownFin _ _ _ _ _ (T54.setTop (mkF m 71 #[.val (.ref a1), .val (.ref a2), .val .null, .val (.ref a4), .val (.ref a5), .val (.long q1), .second, .val (.long q2), .second, .val (.long q3), .second] [(.long q1), (.ref a1)]))
  obtain ⟨T55, h55, X55, e55, W55, st55⟩ := putF X54 hx hZ hown (host := "") (Or.inl (hw _ (List.mem_of_getElem? (i := 61) rfl))) Via.refl e54 F_a1_amount E_a1 (Or.inr ⟨(hw _ (List.mem_of_getElem? (i := 62) rfl)), rfl, hnm⟩) (hw _ (List.mem_of_getElem? (i := 36) rfl)) (ty := .long) (by decide) rfl rfl (g := (mkF m 71 #[.val (.ref a1), .val (.ref a2), .val .null, .val (.ref a4), .val (.ref a5), .val (.long q1), .second, .val (.long q2), .second, .val (.long q3), .second] [(.long q1), (.ref a1)])) rfl rfl (hb hby d7_71)
  have N55 := Fr.snoc X55 N54 ge_a1
  have F_a1_amount := F_a1_amount.same W55
  have F_a1_outTradeNo := F_a1_outTradeNo.other W55 (Or.inr (slot_ne (Or.inr (hw _ (List.mem_of_getElem? (i := 54) rfl))) (Or.inr (hw _ (List.mem_of_getElem? (i := 62) rfl))) (by decide) (t := (.object "java/lang/String")) (t' := .long) (by decide) (by decide)))
  have F_a1_outRefundNo := F_a1_outRefundNo.other W55 (Or.inr (slot_ne (Or.inr (hw _ (List.mem_of_getElem? (i := 56) rfl))) (Or.inr (hw _ (List.mem_of_getElem? (i := 62) rfl))) (by decide) (t := (.object "java/lang/String")) (t' := .long) (by decide) (by decide)))
  have F_a1_state := F_a1_state.other W55 (Or.inr (slot_ne (Or.inr (hw _ (List.mem_of_getElem? (i := 58) rfl))) (Or.inr (hw _ (List.mem_of_getElem? (i := 62) rfl))) (by decide) (t := (.object "java/lang/String")) (t' := .long) (by decide) (by decide)))
  have F_a1_standing := F_a1_standing.other W55 (Or.inr (slot_ne (Or.inr (hw _ (List.mem_of_getElem? (i := 60) rfl))) (Or.inr (hw _ (List.mem_of_getElem? (i := 62) rfl))) (by decide) (t := (.object "com/example/tillbridge/tillbridge/channel/Bill$Standing")) (t' := .long) (by decide) (by decide)))
  have F_a1_couponRefund := F_a1_couponRefund.other W55 (Or.inr (slot_ne (Or.inr (hw _ (List.mem_of_getElem? (i := 64) rfl))) (Or.inr (hw _ (List.mem_of_getElem? (i := 62) rfl))) (by decide) (t := .long) (t' := .long) (by decide) (by decide)))
  have F_a1_fee := F_a1_fee.other W55 (Or.inr (slot_ne (Or.inr (hw _ (List.mem_of_getElem? (i := 66) rfl))) (Or.inr (hw _ (List.mem_of_getElem? (i := 62) rfl))) (by decide) (t := .long) (t' := .long) (by decide) (by decide)))
  have E_a1 := E_a1.wr W55
  have K0 := K0.wr W55 (Or.inl (List.mem_of_getElem? (i := 0) rfl))
  have Z0 := own_szW Z0 W55
  refine ownVia st55 ?_
  show ownFin _ _ _ _ _ (T55.setTop (mkF m 74 #[.val (.ref a1), .val (.ref a2), .val .null, .val (.ref a4), .val (.ref a5), .val (.long q1), .second, .val (.long q2), .second, .val (.long q3), .second] []))
  refine ownVia (fun _ k => XS.aloadN X55.here hx rfl (hb hby d7_74) rfl rfl k) ?_
  show ownFin _ _ _ _ _ (T55.setTop (mkF m 75 #[.val (.ref a1), .val (.ref a2), .val .null, .val (.ref a4), .val (.ref a5), .val (.long q1), .second, .val (.long q2), .second, .val (.long q3), .second] [(.ref a1)]))
  refine ownVia (fun _ k => XS.lload X55.here hx rfl (hb hby d7_75) rfl k) ?_
  show ownFin _ _ _ _ _ (T55.setTop (mkF m 77 #[.val (.ref a1), .val (.ref a2), .val .null, .val (.ref a4), .val (.ref a5), .val (.long q1), .second, .val (.long q2), .second, .val (.long q3), .second] [(.long q2), (.ref a1)]))
  obtain ⟨T56, h56, X56, e56, W56, st56⟩ := putF X55 hx hZ hown (host := "") (Or.inl (hw _ (List.mem_of_getElem? (i := 63) rfl))) Via.refl e55 F_a1_couponRefund E_a1 (Or.inr ⟨(hw _ (List.mem_of_getElem? (i := 64) rfl)), rfl, hnm⟩) (hw _ (List.mem_of_getElem? (i := 36) rfl)) (ty := .long) (by decide) rfl rfl (g := (mkF m 77 #[.val (.ref a1), .val (.ref a2), .val .null, .val (.ref a4), .val (.ref a5), .val (.long q1), .second, .val (.long q2), .second, .val (.long q3), .second] [(.long q2), (.ref a1)])) rfl rfl (hb hby d7_77)
  have N56 := Fr.snoc X56 N55 ge_a1
  have F_a1_couponRefund := F_a1_couponRefund.same W56
  have F_a1_outTradeNo := F_a1_outTradeNo.other W56 (Or.inr (slot_ne (Or.inr (hw _ (List.mem_of_getElem? (i := 54) rfl))) (Or.inr (hw _ (List.mem_of_getElem? (i := 64) rfl))) (by decide) (t := (.object "java/lang/String")) (t' := .long) (by decide) (by decide)))
  have F_a1_outRefundNo := F_a1_outRefundNo.other W56 (Or.inr (slot_ne (Or.inr (hw _ (List.mem_of_getElem? (i := 56) rfl))) (Or.inr (hw _ (List.mem_of_getElem? (i := 64) rfl))) (by decide) (t := (.object "java/lang/String")) (t' := .long) (by decide) (by decide)))
  have F_a1_state := F_a1_state.other W56 (Or.inr (slot_ne (Or.inr (hw _ (List.mem_of_getElem? (i := 58) rfl))) (Or.inr (hw _ (List.mem_of_getElem? (i := 64) rfl))) (by decide) (t := (.object "java/lang/String")) (t' := .long) (by decide) (by decide)))
  have F_a1_standing := F_a1_standing.other W56 (Or.inr (slot_ne (Or.inr (hw _ (List.mem_of_getElem? (i := 60) rfl))) (Or.inr (hw _ (List.mem_of_getElem? (i := 64) rfl))) (by decide) (t := (.object "com/example/tillbridge/tillbridge/channel/Bill$Standing")) (t' := .long) (by decide) (by decide)))
  have F_a1_amount := F_a1_amount.other W56 (Or.inr (slot_ne (Or.inr (hw _ (List.mem_of_getElem? (i := 62) rfl))) (Or.inr (hw _ (List.mem_of_getElem? (i := 64) rfl))) (by decide) (t := .long) (t' := .long) (by decide) (by decide)))
  have F_a1_fee := F_a1_fee.other W56 (Or.inr (slot_ne (Or.inr (hw _ (List.mem_of_getElem? (i := 66) rfl))) (Or.inr (hw _ (List.mem_of_getElem? (i := 64) rfl))) (by decide) (t := .long) (t' := .long) (by decide) (by decide)))
  have E_a1 := E_a1.wr W56
  have K0 := K0.wr W56 (Or.inl (List.mem_of_getElem? (i := 0) rfl))
  have Z0 := own_szW Z0 W56
  refine ownVia st56 ?_
  show ownFin _ _ _ _ _ (T56.setTop (mkF m 80 #[.val (.ref a1), .val (.ref a2), .val .null, .val (.ref a4), .val (.ref a5), .val (.long q1), .second, .val (.long q2), .second, .val (.long q3), .second] []))
  refine ownVia (fun _ k => XS.aloadN X56.here hx rfl (hb hby d7_80) rfl rfl k) ?_
  show ownFin _ _ _ _ _ (T56.setTop (mkF m 81 #[.val (.ref a1), .val (.ref a2), .val .null, .val (.ref a4), .val (.ref a5), .val (.long q1), .second, .val (.long q2), .second, .val (.long q3), .second] [(.ref a1)]))
  refine ownVia (fun _ k => XS.lload X56.here hx rfl (hb hby d7_81) rfl k) ?_
  show ownFin _ _ _ _ _ (T56.setTop (mkF m 83 #[.val (.ref a1), .val (.ref a2), .val .null, .val (.ref a4), .val (.ref a5), .val (.long q1), .second, .val (.long q2), .second, .val (.long q3), .second] [(.long q3), (.ref a1)]))
  obtain ⟨T57, h57, X57, e57, W57, st57⟩ := putF X56 hx hZ hown (host := "") (Or.inl (hw _ (List.mem_of_getElem? (i := 65) rfl))) Via.refl e56 F_a1_fee E_a1 (Or.inr ⟨(hw _ (List.mem_of_getElem? (i := 66) rfl)), rfl, hnm⟩) (hw _ (List.mem_of_getElem? (i := 36) rfl)) (ty := .long) (by decide) rfl rfl (g := (mkF m 83 #[.val (.ref a1), .val (.ref a2), .val .null, .val (.ref a4), .val (.ref a5), .val (.long q1), .second, .val (.long q2), .second, .val (.long q3), .second] [(.long q3), (.ref a1)])) rfl rfl (hb hby d7_83)
  have N57 := Fr.snoc X57 N56 ge_a1
  have F_a1_fee := F_a1_fee.same W57
  have F_a1_outTradeNo := F_a1_outTradeNo.other W57 (Or.inr (slot_ne (Or.inr (hw _ (List.mem_of_getElem? (i := 54) rfl))) (Or.inr (hw _ (List.mem_of_getElem? (i := 66) rfl))) (by decide) (t := (.object "java/lang/String")) (t' := .long) (by decide) (by decide)))
  have F_a1_outRefundNo := F_a1_outRefundNo.other W57 (Or.inr (slot_ne (Or.inr (hw _ (List.mem_of_getElem? (i := 56) rfl))) (Or.inr (hw _ (List.mem_of_getElem? (i := 66) rfl))) (by decide) (t := (.object "java/lang/String")) (t' := .long) (by decide) (by decide)))
  have F_a1_state := F_a1_state.other W57 (Or.inr (slot_ne (Or.inr (hw _ (List.mem_of_getElem? (i := 58) rfl))) (Or.inr (hw _ (List.mem_of_getElem? (i := 66) rfl))) (by decide) (t := (.object "java/lang/String")) (t' := .long) (by decide) (by decide)))
  have F_a1_standing := F_a1_standing.other W57 (Or.inr (slot_ne (Or.inr (hw _ (List.mem_of_getElem? (i := 60) rfl))) (Or.inr (hw _ (List.mem_of_getElem? (i := 66) rfl))) (by decide) (t := (.object "com/example/tillbridge/tillbridge/channel/Bill$Standing")) (t' := .long) (by decide) (by decide)))
  have F_a1_amount := F_a1_amount.other W57 (Or.inr (slot_ne (Or.inr (hw _ (List.mem_of_getElem? (i := 62) rfl))) (Or.inr (hw _ (List.mem_of_getElem? (i := 66) rfl))) (by decide) (t := .long) (t' := .long) (by decide) (by decide)))
  have F_a1_couponRefund := F_a1_couponRefund.other W57 (Or.inr (slot_ne (Or.inr (hw _ (List.mem_of_getElem? (i := 64) rfl))) (Or.inr (hw _ (List.mem_of_getElem? (i := 66) rfl))) (by decide) (t := .long) (t' := .long) (by decide) (by decide)))
  have E_a1 := E_a1.wr W57
  have K0 := K0.wr W57 (Or.inl (List.mem_of_getElem? (i := 0) rfl))
  have Z0 := own_szW Z0 W57
  refine ownVia st57 ?_
  show ownFin _ _ _ _ _ (T57.setTop (mkF m 86 #[.val (.ref a1), .val (.ref a2), .val .null, .val (.ref a4), .val (.ref a5), .val (.long q1), .second, .val (.long q2), .second, .val (.long q3), .second] []))
  refine ownRetV X57 hx hlk hret (hb hby d7_86) (by decide) (by decide) ?_
  show (Q_own_line_nr Z a1 a2 a4 a5 q1 q2 q3 h0 n0 ) none T57.heap _
  rw [e57]
  exact ⟨rfl, N57, K0, F_a1_outRefundNo⟩
theorem own_ef58 (m : MethodId) (a1 : Addr) (a2 : Addr) (a3 : Addr) (a5 : Addr) (q1 : Int64) (q2 : Int64) (q3 : Int64) : entryFrame m #[(.ref a1), (.ref a2), (.ref a3), .null, (.ref a5), (.long q1), (.long q2), (.long q3)] 11 = mkF m 0 #[.val (.ref a1), .val (.ref a2), .val (.ref a3), .val .null, .val (.ref a5), .val (.long q1), .second, .val (.long q2), .second, .val (.long q3), .second] [] := by first | (simp [entryFrame, mkF, argsToLocals, Value.category]; done) | rfl
def Q_own_line_rn (Z : State) (a1 : Addr) (a2 : Addr) (a3 : Addr) (a5 : Addr) (q1 : Int64) (q2 : Int64) (q3 : Int64) (h0 : Heap) (n0 : Nat)  : Option Value → Heap → List Loc → Prop := fun v h L => v = none ∧ Fr n0 L ∧ Keep h0 h [a1] ∧ Fld Z h a1 "com/example/tillbridge/tillbridge/channel/Bill$Line" "outRefundNo" "Ljava/lang/String;" (.ref a3)
set_option maxRecDepth 65536 in
set_option maxHeartbeats 40000000 in
theorem own_line_rn (l : Launch) (Z : State) (a0 : Array Value) (hw : ∀ d ∈ tables_1, d.before a0 Z = true)  (a1 : Addr) (a2 : Addr) (a3 : Addr) (a5 : Addr) (q1 : Int64) (q2 : Int64) (q3 : Int64) (h0 : Heap) (n0 : Nat)  (Z0 : n0 ≤ h0.size) (F_a1_outTradeNo : Fld Z h0 a1 "com/example/tillbridge/tillbridge/channel/Bill$Line" "outTradeNo" "Ljava/lang/String;" .null) (F_a1_outRefundNo : Fld Z h0 a1 "com/example/tillbridge/tillbridge/channel/Bill$Line" "outRefundNo" "Ljava/lang/String;" .null) (F_a1_state : Fld Z h0 a1 "com/example/tillbridge/tillbridge/channel/Bill$Line" "state" "Ljava/lang/String;" .null) (F_a1_standing : Fld Z h0 a1 "com/example/tillbridge/tillbridge/channel/Bill$Line" "standing" "Lcom/example/tillbridge/tillbridge/channel/Bill$Standing;" .null) (F_a1_amount : Fld Z h0 a1 "com/example/tillbridge/tillbridge/channel/Bill$Line" "amount" "J" (.long (0 : Int64))) (F_a1_couponRefund : Fld Z h0 a1 "com/example/tillbridge/tillbridge/channel/Bill$Line" "couponRefund" "J" (.long (0 : Int64))) (F_a1_fee : Fld Z h0 a1 "com/example/tillbridge/tillbridge/channel/Bill$Line" "fee" "J" (.long (0 : Int64))) (E_a1 : Exa Z h0 a1 "com/example/tillbridge/tillbridge/channel/Bill$Line") (ge_a1 : n0 ≤ a1) (h1 : own_la q1 = 1) (h2 : own_la q2 = 1) (h3 : own_la q3 = 1) :
    ownMet l Z (⟨"com/example/tillbridge/tillbridge/channel/Bill$Line", "<init>", "(Ljava/lang/String;Ljava/lang/String;Ljava/lang/String;Lcom/example/tillbridge/tillbridge/channel/Bill$Standing;JJJ)V"⟩ : MethodName) prog_7_method_1_code 11 none [] ({ frames := 2, cells := 0, slots := 0, locals := 40 } : Room) #[(.ref a1), (.ref a2), (.ref a3), .null, (.ref a5), (.long q1), (.long q2), (.long q3)] h0 (Q_own_line_rn Z a1 a2 a3 a5 q1 q2 q3 h0 n0 ) := by
  refine ownBody (plainFor_of_name own_pn5) ?_
  intro p e s m below meth c T0 hx hby hml hret hlk hZ hown hnm X0 e0
  have N0 : Fr n0 [] := Fr.nil n0
  refine ownVia (fun _ k => castTop (own_ef58 m a1 a2 a3 a5 q1 q2 q3) k) ?_
  show ownFin _ _ _ _ _ (T0.setTop (mkF m 0 #[.val (.ref a1), .val (.ref a2), .val (.ref a3), .val .null, .val (.ref a5), .val (.long q1), .second, .val (.long q2), .second, .val (.long q3), .second] []))
  have K0 : Keep h0 h0 [a1] := Keep.refl _ _
  refine ownVia (fun _ k => XS.aloadN X0.here hx rfl (hb hby d7_0) rfl rfl k) ?_
  show ownFin _ _ _ _ _ (T0.setTop (mkF m 1 #[.val (.ref a1), .val (.ref a2), .val (.ref a3), .val .null, .val (.ref a5), .val (.long q1), .second, .val (.long q2), .second, .val (.long q3), .second] [(.ref a1)]))
  refine ownCallN X0 hx hZ hown rfl (hw _ (List.mem_of_getElem? (i := 41) rfl)) (hw _ (List.mem_of_getElem? (i := 42) rfl)) (hw _ (List.mem_of_getElem? (i := 44) rfl)) (hw _ (List.mem_of_getElem? (i := 45) rfl)) (by decide) e0 (own_rec l Z a0 hw a1 h0 n0 Z0) (by rw [hml]; rfl) a1 [] [] (lenOf own_pd3 rfl) rfl rfl 0 rfl (hb hby d7_1) (by decide) (by decide) (by decide) (by decide) ?_
  intro v59 T59 L59 X59 hq59
  obtain ⟨rfl, N59q, eq59⟩ := hq59
  have N59 := Fr.app N0 N59q
  have e59 : T59.heap = h0 := eq59
  show ownFin _ _ _ _ _ (T59.setTop (mkF m 4 #[.val (.ref a1), .val (.ref a2), .val (.ref a3), .val .null, .val (.ref a5), .val (.long q1), .second, .val (.long q2), .second, .val (.long q3), .second] []))
  refine ownVia (fun _ k => XS.lload X59.here hx rfl (hb hby d7_4) rfl k) ?_
  show ownFin _ _ _ _ _ (T59.setTop (mkF m 6 #[.val (.ref a1), .val (.ref a2), .val (.ref a3), .val .null, .val (.ref a5), .val (.long q1), .second, .val (.long q2), .second, .val (.long q3), .second] [(.long q1)]))
  refine ownCallS X59 hx hZ hown (hw _ (List.mem_of_getElem? (i := 47) rfl)) (hw _ (List.mem_of_getElem? (i := 48) rfl)) (hw _ (List.mem_of_getElem? (i := 49) rfl)) (hw _ (List.mem_of_getElem? (i := 50) rfl)) (by decide) e59 (own_isla l Z a0 hw q1 h0 n0 Z0) (by rw [hml]; rfl) [(.long q1)] [] (lenOf own_pd4 rfl) rfl rfl 0 rfl (hb hby d7_6) (by decide) (by decide) (by decide) (by decide) ?_
  intro v60 T60 L60 X60 hq60
  obtain ⟨rfl, N60q, eq60⟩ := hq60
  have N60 := Fr.app N59 N60q
  have e60 : T60.heap = h0 := eq60
  show ownFin _ _ _ _ _ (T60.setTop (mkF m 9 #[.val (.ref a1), .val (.ref a2), .val (.ref a3), .val .null, .val (.ref a5), .val (.long q1), .second, .val (.long q2), .second, .val (.long q3), .second] [(.int (own_la q1))]))
  refine ownVia (fun _ k => XS.ifNo X60.here hx rfl (hb hby d7_9) rfl ((if0 _ _).trans (feq (by rw [h1]; decide)).1) k) ?_
  show ownFin _ _ _ _ _ (T60.setTop (mkF m 12 #[.val (.ref a1), .val (.ref a2), .val (.ref a3), .val .null, .val (.ref a5), .val (.long q1), .second, .val (.long q2), .second, .val (.long q3), .second] []))
  refine ownVia (fun _ k => XS.lload X60.here hx rfl (hb hby d7_12) rfl k) ?_
  show ownFin _ _ _ _ _ (T60.setTop (mkF m 14 #[.val (.ref a1), .val (.ref a2), .val (.ref a3), .val .null, .val (.ref a5), .val (.long q1), .second, .val (.long q2), .second, .val (.long q3), .second] [(.long q2)]))
  refine ownCallS X60 hx hZ hown (hw _ (List.mem_of_getElem? (i := 47) rfl)) (hw _ (List.mem_of_getElem? (i := 48) rfl)) (hw _ (List.mem_of_getElem? (i := 49) rfl)) (hw _ (List.mem_of_getElem? (i := 50) rfl)) (by decide) e60 (own_isla l Z a0 hw q2 h0 n0 Z0) (by rw [hml]; rfl) [(.long q2)] [] (lenOf own_pd4 rfl) rfl rfl 0 rfl (hb hby d7_14) (by decide) (by decide) (by decide) (by decide) ?_
  intro v61 T61 L61 X61 hq61
  obtain ⟨rfl, N61q, eq61⟩ := hq61
  have N61 := Fr.app N60 N61q
  have e61 : T61.heap = h0 := eq61
  show ownFin _ _ _ _ _ (T61.setTop (mkF m 17 #[.val (.ref a1), .val (.ref a2), .val (.ref a3), .val .null, .val (.ref a5), .val (.long q1), .second, .val (.long q2), .second, .val (.long q3), .second] [(.int (own_la q2))]))
  refine ownVia (fun _ k => XS.ifNo X61.here hx rfl (hb hby d7_17) rfl ((if0 _ _).trans (feq (by rw [h2]; decide)).1) k) ?_
  show ownFin _ _ _ _ _ (T61.setTop (mkF m 20 #[.val (.ref a1), .val (.ref a2), .val (.ref a3), .val .null, .val (.ref a5), .val (.long q1), .second, .val (.long q2), .second, .val (.long q3), .second] []))
  refine ownVia (fun _ k => XS.lload X61.here hx rfl (hb hby d7_20) rfl k) ?_
  show ownFin _ _ _ _ _ (T61.setTop (mkF m 22 #[.val (.ref a1), .val (.ref a2), .val (.ref a3), .val .null, .val (.ref a5), .val (.long q1), .second, .val (.long q2), .second, .val (.long q3), .second] [(.long q3)]))
  refine ownCallS X61 hx hZ hown (hw _ (List.mem_of_getElem? (i := 47) rfl)) (hw _ (List.mem_of_getElem? (i := 48) rfl)) (hw _ (List.mem_of_getElem? (i := 49) rfl)) (hw _ (List.mem_of_getElem? (i := 50) rfl)) (by decide) e61 (own_isla l Z a0 hw q3 h0 n0 Z0) (by rw [hml]; rfl) [(.long q3)] [] (lenOf own_pd4 rfl) rfl rfl 0 rfl (hb hby d7_22) (by decide) (by decide) (by decide) (by decide) ?_
  intro v62 T62 L62 X62 hq62
  obtain ⟨rfl, N62q, eq62⟩ := hq62
  have N62 := Fr.app N61 N62q
  have e62 : T62.heap = h0 := eq62
  show ownFin _ _ _ _ _ (T62.setTop (mkF m 25 #[.val (.ref a1), .val (.ref a2), .val (.ref a3), .val .null, .val (.ref a5), .val (.long q1), .second, .val (.long q2), .second, .val (.long q3), .second] [(.int (own_la q3))]))
  refine ownVia (fun _ k => XS.ifYes X62.here hx rfl (pc0 := 25) (pc' := 47) rfl (hb hby d7_25) rfl ((if0 _ _).trans (feq (by rw [h3]; decide)).2) (by decide) (by decide) k) ?_
  show ownFin _ _ _ _ _ (T62.setTop (mkF m 47 #[.val (.ref a1), .val (.ref a2), .val (.ref a3), .val .null, .val (.ref a5), .val (.long q1), .second, .val (.long q2), .second, .val (.long q3), .second] []))
  refine ownVia (fun _ k => XS.aloadN X62.here hx rfl (hb hby d7_47) rfl rfl k) ?_
  show ownFin _ _ _ _ _ (T62.setTop (mkF m 48 #[.val (.ref a1), .val (.ref a2), .val (.ref a3), .val .null, .val (.ref a5), .val (.long q1), .second, .val (.long q2), .second, .val (.long q3), .second] [(.ref a1)]))
  refine ownVia (fun _ k => XS.aloadN X62.here hx rfl (hb hby d7_48) rfl rfl k) ?_
  show ownFin _ _ _ _ _ (T62.setTop (mkF m 49 #[.val (.ref a1), .val (.ref a2), .val (.ref a3), .val .null, .val (.ref a5), .val (.long q1), .second, .val (.long q2), .second, .val (.long q3), .second] [(.ref a2), (.ref a1)]))
  obtain ⟨T63, h63, X63, e63, W63, st63⟩ := putF X62 hx hZ hown (host := "") (Or.inl (hw _ (List.mem_of_getElem? (i := 53) rfl))) Via.refl e62 F_a1_outTradeNo E_a1 (Or.inr ⟨(hw _ (List.mem_of_getElem? (i := 54) rfl)), rfl, hnm⟩) (hw _ (List.mem_of_getElem? (i := 36) rfl)) (ty := (.object "java/lang/String")) (by decide) rfl rfl (g := (mkF m 49 #[.val (.ref a1), .val (.ref a2), .val (.ref a3), .val .null, .val (.ref a5), .val (.long q1), .second, .val (.long q2), .second, .val (.long q3), .second] [(.ref a2), (.ref a1)])) rfl rfl (hb hby d7_49)
  have N63 := Fr.snoc X63 N62 ge_a1
  have F_a1_outTradeNo := F_a1_outTradeNo.same W63
  have F_a1_outRefundNo := F_a1_outRefundNo.other W63 (Or.inr (slot_ne (Or.inr (hw _ (List.mem_of_getElem? (i := 56) rfl))) (Or.inr (hw _ (List.mem_of_getElem? (i := 54) rfl))) (by decide) (t := (.object "java/lang/String")) (t' := (.object "java/lang/String")) (by decide) (by decide)))
  have F_a1_state := F_a1_state.other W63 (Or.inr (slot_ne (Or.inr (hw _ (List.mem_of_getElem? (i := 58) rfl))) (Or.inr (hw _ (List.mem_of_getElem? (i := 54) rfl))) (by decide) (t := (.object "java/lang/String")) (t' := (.object "java/lang/String")) (by decide) (by decide)))
  have F_a1_standing := F_a1_standing.other W63 (Or.inr (slot_ne (Or.inr (hw _ (List.mem_of_getElem? (i := 60) rfl))) (Or.inr (hw _ (List.mem_of_getElem? (i := 54) rfl))) (by decide) (t := (.object "com/example/tillbridge/tillbridge/channel/Bill$Standing")) (t' := (.object "java/lang/String")) (by decide) (by decide)))
  have F_a1_amount := F_a1_amount.other W63 (Or.inr (slot_ne (Or.inr (hw _ (List.mem_of_getElem? (i := 62) rfl))) (Or.inr (hw _ (List.mem_of_getElem? (i := 54) rfl))) (by decide) (t := .long) (t' := (.object "java/lang/String")) (by decide) (by decide)))
  have F_a1_couponRefund := F_a1_couponRefund.other W63 (Or.inr (slot_ne (Or.inr (hw _ (List.mem_of_getElem? (i := 64) rfl))) (Or.inr (hw _ (List.mem_of_getElem? (i := 54) rfl))) (by decide) (t := .long) (t' := (.object "java/lang/String")) (by decide) (by decide)))
  have F_a1_fee := F_a1_fee.other W63 (Or.inr (slot_ne (Or.inr (hw _ (List.mem_of_getElem? (i := 66) rfl))) (Or.inr (hw _ (List.mem_of_getElem? (i := 54) rfl))) (by decide) (t := .long) (t' := (.object "java/lang/String")) (by decide) (by decide)))
  have E_a1 := E_a1.wr W63
  have K0 := K0.wr W63 (Or.inl (List.mem_of_getElem? (i := 0) rfl))
  have Z0 := own_szW Z0 W63
  refine ownVia st63 ?_
  show ownFin _ _ _ _ _ (T63.setTop (mkF m 52 #[.val (.ref a1), .val (.ref a2), .val (.ref a3), .val .null, .val (.ref a5), .val (.long q1), .second, .val (.long q2), .second, .val (.long q3), .second] []))
  refine ownVia (fun _ k => XS.aloadN X63.here hx rfl (hb hby d7_52) rfl rfl k) ?_
  show ownFin _ _ _ _ _ (T63.setTop (mkF m 53 #[.val (.ref a1), .val (.ref a2), .val (.ref a3), .val .null, .val (.ref a5), .val (.long q1), .second, .val (.long q2), .second, .val (.long q3), .second] [(.ref a1)]))
  refine ownVia (fun _ k => XS.aloadN X63.here hx rfl (hb hby d7_53) rfl rfl k) ?_
  show ownFin _ _ _ _ _ (T63.setTop (mkF m 54 #[.val (.ref a1), .val (.ref a2), .val (.ref a3), .val .null, .val (.ref a5), .val (.long q1), .second, .val (.long q2), .second, .val (.long q3), .second] [(.ref a3), (.ref a1)]))
  obtain ⟨T64, h64, X64, e64, W64, st64⟩ := putF X63 hx hZ hown (host := "") (Or.inl (hw _ (List.mem_of_getElem? (i := 55) rfl))) Via.refl e63 F_a1_outRefundNo E_a1 (Or.inr ⟨(hw _ (List.mem_of_getElem? (i := 56) rfl)), rfl, hnm⟩) (hw _ (List.mem_of_getElem? (i := 36) rfl)) (ty := (.object "java/lang/String")) (by decide) rfl rfl (g := (mkF m 54 #[.val (.ref a1), .val (.ref a2), .val (.ref a3), .val .null, .val (.ref a5), .val (.long q1), .second, .val (.long q2), .second, .val (.long q3), .second] [(.ref a3), (.ref a1)])) rfl rfl (hb hby d7_54)
  have N64 := Fr.snoc X64 N63 ge_a1
  have F_a1_outRefundNo := F_a1_outRefundNo.same W64
  have F_a1_outTradeNo := F_a1_outTradeNo.other W64 (Or.inr (slot_ne (Or.inr (hw _ (List.mem_of_getElem? (i := 54) rfl))) (Or.inr (hw _ (List.mem_of_getElem? (i := 56) rfl))) (by decide) (t := (.object "java/lang/String")) (t' := (.object "java/lang/String")) (by decide) (by decide)))
  have F_a1_state := F_a1_state.other W64 (Or.inr (slot_ne (Or.inr (hw _ (List.mem_of_getElem? (i := 58) rfl))) (Or.inr (hw _ (List.mem_of_getElem? (i := 56) rfl))) (by decide) (t := (.object "java/lang/String")) (t' := (.object "java/lang/String")) (by decide) (by decide)))
  have F_a1_standing := F_a1_standing.other W64 (Or.inr (slot_ne (Or.inr (hw _ (List.mem_of_getElem? (i := 60) rfl))) (Or.inr (hw _ (List.mem_of_getElem? (i := 56) rfl))) (by decide) (t := (.object "com/example/tillbridge/tillbridge/channel/Bill$Standing")) (t' := (.object "java/lang/String")) (by decide) (by decide)))
  have F_a1_amount := F_a1_amount.other W64 (Or.inr (slot_ne (Or.inr (hw _ (List.mem_of_getElem? (i := 62) rfl))) (Or.inr (hw _ (List.mem_of_getElem? (i := 56) rfl))) (by decide) (t := .long) (t' := (.object "java/lang/String")) (by decide) (by decide)))
  have F_a1_couponRefund := F_a1_couponRefund.other W64 (Or.inr (slot_ne (Or.inr (hw _ (List.mem_of_getElem? (i := 64) rfl))) (Or.inr (hw _ (List.mem_of_getElem? (i := 56) rfl))) (by decide) (t := .long) (t' := (.object "java/lang/String")) (by decide) (by decide)))
  have F_a1_fee := F_a1_fee.other W64 (Or.inr (slot_ne (Or.inr (hw _ (List.mem_of_getElem? (i := 66) rfl))) (Or.inr (hw _ (List.mem_of_getElem? (i := 56) rfl))) (by decide) (t := .long) (t' := (.object "java/lang/String")) (by decide) (by decide)))
  have E_a1 := E_a1.wr W64
  have K0 := K0.wr W64 (Or.inl (List.mem_of_getElem? (i := 0) rfl))
  have Z0 := own_szW Z0 W64
  refine ownVia st64 ?_
  show ownFin _ _ _ _ _ (T64.setTop (mkF m 57 #[.val (.ref a1), .val (.ref a2), .val (.ref a3), .val .null, .val (.ref a5), .val (.long q1), .second, .val (.long q2), .second, .val (.long q3), .second] []))
  refine ownVia (fun _ k => XS.aloadN X64.here hx rfl (hb hby d7_57) rfl rfl k) ?_
  show ownFin _ _ _ _ _ (T64.setTop (mkF m 58 #[.val (.ref a1), .val (.ref a2), .val (.ref a3), .val .null, .val (.ref a5), .val (.long q1), .second, .val (.long q2), .second, .val (.long q3), .second] [(.ref a1)]))
  refine ownVia (fun _ k => XS.aloadN X64.here hx rfl (hb hby d7_58) rfl rfl k) ?_
  show ownFin _ _ _ _ _ (T64.setTop (mkF m 59 #[.val (.ref a1), .val (.ref a2), .val (.ref a3), .val .null, .val (.ref a5), .val (.long q1), .second, .val (.long q2), .second, .val (.long q3), .second] [.null, (.ref a1)]))
  obtain ⟨T65, h65, X65, e65, W65, st65⟩ := putF X64 hx hZ hown (host := "") (Or.inl (hw _ (List.mem_of_getElem? (i := 57) rfl))) Via.refl e64 F_a1_state E_a1 (Or.inr ⟨(hw _ (List.mem_of_getElem? (i := 58) rfl)), rfl, hnm⟩) (hw _ (List.mem_of_getElem? (i := 36) rfl)) (ty := (.object "java/lang/String")) (by decide) rfl rfl (g := (mkF m 59 #[.val (.ref a1), .val (.ref a2), .val (.ref a3), .val .null, .val (.ref a5), .val (.long q1), .second, .val (.long q2), .second, .val (.long q3), .second] [.null, (.ref a1)])) rfl rfl (hb hby d7_59)
  have N65 := Fr.snoc X65 N64 ge_a1
  have F_a1_state := F_a1_state.same W65
  have F_a1_outTradeNo := F_a1_outTradeNo.other W65 (Or.inr (slot_ne (Or.inr (hw _ (List.mem_of_getElem? (i := 54) rfl))) (Or.inr (hw _ (List.mem_of_getElem? (i := 58) rfl))) (by decide) (t := (.object "java/lang/String")) (t' := (.object "java/lang/String")) (by decide) (by decide)))
  have F_a1_outRefundNo := F_a1_outRefundNo.other W65 (Or.inr (slot_ne (Or.inr (hw _ (List.mem_of_getElem? (i := 56) rfl))) (Or.inr (hw _ (List.mem_of_getElem? (i := 58) rfl))) (by decide) (t := (.object "java/lang/String")) (t' := (.object "java/lang/String")) (by decide) (by decide)))
  have F_a1_standing := F_a1_standing.other W65 (Or.inr (slot_ne (Or.inr (hw _ (List.mem_of_getElem? (i := 60) rfl))) (Or.inr (hw _ (List.mem_of_getElem? (i := 58) rfl))) (by decide) (t := (.object "com/example/tillbridge/tillbridge/channel/Bill$Standing")) (t' := (.object "java/lang/String")) (by decide) (by decide)))
  have F_a1_amount := F_a1_amount.other W65 (Or.inr (slot_ne (Or.inr (hw _ (List.mem_of_getElem? (i := 62) rfl))) (Or.inr (hw _ (List.mem_of_getElem? (i := 58) rfl))) (by decide) (t := .long) (t' := (.object "java/lang/String")) (by decide) (by decide)))
  have F_a1_couponRefund := F_a1_couponRefund.other W65 (Or.inr (slot_ne (Or.inr (hw _ (List.mem_of_getElem? (i := 64) rfl))) (Or.inr (hw _ (List.mem_of_getElem? (i := 58) rfl))) (by decide) (t := .long) (t' := (.object "java/lang/String")) (by decide) (by decide)))
  have F_a1_fee := F_a1_fee.other W65 (Or.inr (slot_ne (Or.inr (hw _ (List.mem_of_getElem? (i := 66) rfl))) (Or.inr (hw _ (List.mem_of_getElem? (i := 58) rfl))) (by decide) (t := .long) (t' := (.object "java/lang/String")) (by decide) (by decide)))
  have E_a1 := E_a1.wr W65
  have K0 := K0.wr W65 (Or.inl (List.mem_of_getElem? (i := 0) rfl))
  have Z0 := own_szW Z0 W65
  refine ownVia st65 ?_
  show ownFin _ _ _ _ _ (T65.setTop (mkF m 62 #[.val (.ref a1), .val (.ref a2), .val (.ref a3), .val .null, .val (.ref a5), .val (.long q1), .second, .val (.long q2), .second, .val (.long q3), .second] []))
  refine ownVia (fun _ k => XS.aloadN X65.here hx rfl (hb hby d7_62) rfl rfl k) ?_
  show ownFin _ _ _ _ _ (T65.setTop (mkF m 63 #[.val (.ref a1), .val (.ref a2), .val (.ref a3), .val .null, .val (.ref a5), .val (.long q1), .second, .val (.long q2), .second, .val (.long q3), .second] [(.ref a1)]))
  refine ownVia (fun _ k => XS.aload X65.here hx rfl (hb hby d7_63) rfl rfl k) ?_
  show ownFin _ _ _ _ _ (T65.setTop (mkF m 65 #[.val (.ref a1), .val (.ref a2), .val (.ref a3), .val .null, .val (.ref a5), .val (.long q1), .second, .val (.long q2), .second, .val (.long q3), .second] [(.ref a5), (.ref a1)]))
  obtain ⟨T66, h66, X66, e66, W66, st66⟩ := putF X65 hx hZ hown (host := "") (Or.inl (hw _ (List.mem_of_getElem? (i := 59) rfl))) Via.refl e65 F_a1_standing E_a1 (Or.inr ⟨(hw _ (List.mem_of_getElem? (i := 60) rfl)), rfl, hnm⟩) (hw _ (List.mem_of_getElem? (i := 36) rfl)) (ty := (.object "com/example/tillbridge/tillbridge/channel/Bill$Standing")) (by decide) rfl rfl (g := (mkF m 65 #[.val (.ref a1), .val (.ref a2), .val (.ref a3), .val .null, .val (.ref a5), .val (.long q1), .second, .val (.long q2), .second, .val (.long q3), .second] [(.ref a5), (.ref a1)])) rfl rfl (hb hby d7_65)
  have N66 := Fr.snoc X66 N65 ge_a1
  have F_a1_standing := F_a1_standing.same W66
  have F_a1_outTradeNo := F_a1_outTradeNo.other W66 (Or.inr (slot_ne (Or.inr (hw _ (List.mem_of_getElem? (i := 54) rfl))) (Or.inr (hw _ (List.mem_of_getElem? (i := 60) rfl))) (by decide) (t := (.object "java/lang/String")) (t' := (.object "com/example/tillbridge/tillbridge/channel/Bill$Standing")) (by decide) (by decide)))
  have F_a1_outRefundNo := F_a1_outRefundNo.other W66 (Or.inr (slot_ne (Or.inr (hw _ (List.mem_of_getElem? (i := 56) rfl))) (Or.inr (hw _ (List.mem_of_getElem? (i := 60) rfl))) (by decide) (t := (.object "java/lang/String")) (t' := (.object "com/example/tillbridge/tillbridge/channel/Bill$Standing")) (by decide) (by decide)))
  have F_a1_state := F_a1_state.other W66 (Or.inr (slot_ne (Or.inr (hw _ (List.mem_of_getElem? (i := 58) rfl))) (Or.inr (hw _ (List.mem_of_getElem? (i := 60) rfl))) (by decide) (t := (.object "java/lang/String")) (t' := (.object "com/example/tillbridge/tillbridge/channel/Bill$Standing")) (by decide) (by decide)))
  have F_a1_amount := F_a1_amount.other W66 (Or.inr (slot_ne (Or.inr (hw _ (List.mem_of_getElem? (i := 62) rfl))) (Or.inr (hw _ (List.mem_of_getElem? (i := 60) rfl))) (by decide) (t := .long) (t' := (.object "com/example/tillbridge/tillbridge/channel/Bill$Standing")) (by decide) (by decide)))
  have F_a1_couponRefund := F_a1_couponRefund.other W66 (Or.inr (slot_ne (Or.inr (hw _ (List.mem_of_getElem? (i := 64) rfl))) (Or.inr (hw _ (List.mem_of_getElem? (i := 60) rfl))) (by decide) (t := .long) (t' := (.object "com/example/tillbridge/tillbridge/channel/Bill$Standing")) (by decide) (by decide)))
  have F_a1_fee := F_a1_fee.other W66 (Or.inr (slot_ne (Or.inr (hw _ (List.mem_of_getElem? (i := 66) rfl))) (Or.inr (hw _ (List.mem_of_getElem? (i := 60) rfl))) (by decide) (t := .long) (t' := (.object "com/example/tillbridge/tillbridge/channel/Bill$Standing")) (by decide) (by decide)))
  have E_a1 := E_a1.wr W66
  have K0 := K0.wr W66 (Or.inl (List.mem_of_getElem? (i := 0) rfl))
  have Z0 := own_szW Z0 W66
  refine ownVia st66 ?_
  show ownFin _ _ _ _ _ (T66.setTop (mkF m 68 #[.val (.ref a1), .val (.ref a2), .val (.ref a3), .val .null, .val (.ref a5), .val (.long q1), .second, .val (.long q2), .second, .val (.long q3), .second] []))
  refine ownVia (fun _ k => XS.aloadN X66.here hx rfl (hb hby d7_68) rfl rfl k) ?_
  show ownFin _ _ _ _ _ (T66.setTop (mkF m 69 #[.val (.ref a1), .val (.ref a2), .val (.ref a3), .val .null, .val (.ref a5), .val (.long q1), .second, .val (.long q2), .second, .val (.long q3), .second] [(.ref a1)]))
  refine ownVia (fun _ k => XS.lload X66.here hx rfl (hb hby d7_69) rfl k) ?_
  show ownFin _ _ _ _ _ (T66.setTop (mkF m 71 #[.val (.ref a1), .val (.ref a2), .val (.ref a3), .val .null, .val (.ref a5), .val (.long q1), .second, .val (.long q2), .second, .val (.long q3), .second] [(.long q1), (.ref a1)]))
  obtain ⟨T67, h67, X67, e67, W67, st67⟩ := putF X66 hx hZ hown (host := "") (Or.inl (hw _ (List.mem_of_getElem? (i := 61) rfl))) Via.refl e66 F_a1_amount E_a1 (Or.inr ⟨(hw _ (List.mem_of_getElem? (i := 62) rfl)), rfl, hnm⟩) (hw _ (List.mem_of_getElem? (i := 36) rfl)) (ty := .long) (by decide) rfl rfl (g := (mkF m 71 #[.val (.ref a1), .val (.ref a2), .val (.ref a3), .val .null, .val (.ref a5), .val (.long q1), .second, .val (.long q2), .second, .val (.long q3), .second] [(.long q1), (.ref a1)])) rfl rfl (hb hby d7_71)
  have N67 := Fr.snoc X67 N66 ge_a1
  have F_a1_amount := F_a1_amount.same W67
  have F_a1_outTradeNo := F_a1_outTradeNo.other W67 (Or.inr (slot_ne (Or.inr (hw _ (List.mem_of_getElem? (i := 54) rfl))) (Or.inr (hw _ (List.mem_of_getElem? (i := 62) rfl))) (by decide) (t := (.object "java/lang/String")) (t' := .long) (by decide) (by decide)))
  have F_a1_outRefundNo := F_a1_outRefundNo.other W67 (Or.inr (slot_ne (Or.inr (hw _ (List.mem_of_getElem? (i := 56) rfl))) (Or.inr (hw _ (List.mem_of_getElem? (i := 62) rfl))) (by decide) (t := (.object "java/lang/String")) (t' := .long) (by decide) (by decide)))
  have F_a1_state := F_a1_state.other W67 (Or.inr (slot_ne (Or.inr (hw _ (List.mem_of_getElem? (i := 58) rfl))) (Or.inr (hw _ (List.mem_of_getElem? (i := 62) rfl))) (by decide) (t := (.object "java/lang/String")) (t' := .long) (by decide) (by decide)))
  have F_a1_standing := F_a1_standing.other W67 (Or.inr (slot_ne (Or.inr (hw _ (List.mem_of_getElem? (i := 60) rfl))) (Or.inr (hw _ (List.mem_of_getElem? (i := 62) rfl))) (by decide) (t := (.object "com/example/tillbridge/tillbridge/channel/Bill$Standing")) (t' := .long) (by decide) (by decide)))
  have F_a1_couponRefund := F_a1_couponRefund.other W67 (Or.inr (slot_ne (Or.inr (hw _ (List.mem_of_getElem? (i := 64) rfl))) (Or.inr (hw _ (List.mem_of_getElem? (i := 62) rfl))) (by decide) (t := .long) (t' := .long) (by decide) (by decide)))
  have F_a1_fee := F_a1_fee.other W67 (Or.inr (slot_ne (Or.inr (hw _ (List.mem_of_getElem? (i := 66) rfl))) (Or.inr (hw _ (List.mem_of_getElem? (i := 62) rfl))) (by decide) (t := .long) (t' := .long) (by decide) (by decide)))
  have E_a1 := E_a1.wr W67
  have K0 := K0.wr W67 (Or.inl (List.mem_of_getElem? (i := 0) rfl))
  have Z0 := own_szW Z0 W67
  refine ownVia st67 ?_
  show ownFin _ _ _ _ _ (T67.setTop (mkF m 74 #[.val (.ref a1), .val (.ref a2), .val (.ref a3), .val .null, .val (.ref a5), .val (.long q1), .second, .val (.long q2), .second, .val (.long q3), .second] []))
  refine ownVia (fun _ k => XS.aloadN X67.here hx rfl (hb hby d7_74) rfl rfl k) ?_
  show ownFin _ _ _ _ _ (T67.setTop (mkF m 75 #[.val (.ref a1), .val (.ref a2), .val (.ref a3), .val .null, .val (.ref a5), .val (.long q1), .second, .val (.long q2), .second, .val (.long q3), .second] [(.ref a1)]))
  refine ownVia (fun _ k => XS.lload X67.here hx rfl (hb hby d7_75) rfl k) ?_
  show ownFin _ _ _ _ _ (T67.setTop (mkF m 77 #[.val (.ref a1), .val (.ref a2), .val (.ref a3), .val .null, .val (.ref a5), .val (.long q1), .second, .val (.long q2), .second, .val (.long q3), .second] [(.long q2), (.ref a1)]))
  obtain ⟨T68, h68, X68, e68, W68, st68⟩ := putF X67 hx hZ hown (host := "") (Or.inl (hw _ (List.mem_of_getElem? (i := 63) rfl))) Via.refl e67 F_a1_couponRefund E_a1 (Or.inr ⟨(hw _ (List.mem_of_getElem? (i := 64) rfl)), rfl, hnm⟩) (hw _ (List.mem_of_getElem? (i := 36) rfl)) (ty := .long) (by decide) rfl rfl (g := (mkF m 77 #[.val (.ref a1), .val (.ref a2), .val (.ref a3), .val .null, .val (.ref a5), .val (.long q1), .second, .val (.long q2), .second, .val (.long q3), .second] [(.long q2), (.ref a1)])) rfl rfl (hb hby d7_77)
  have N68 := Fr.snoc X68 N67 ge_a1
  have F_a1_couponRefund := F_a1_couponRefund.same W68
  have F_a1_outTradeNo := F_a1_outTradeNo.other W68 (Or.inr (slot_ne (Or.inr (hw _ (List.mem_of_getElem? (i := 54) rfl))) (Or.inr (hw _ (List.mem_of_getElem? (i := 64) rfl))) (by decide) (t := (.object "java/lang/String")) (t' := .long) (by decide) (by decide)))
  have F_a1_outRefundNo := F_a1_outRefundNo.other W68 (Or.inr (slot_ne (Or.inr (hw _ (List.mem_of_getElem? (i := 56) rfl))) (Or.inr (hw _ (List.mem_of_getElem? (i := 64) rfl))) (by decide) (t := (.object "java/lang/String")) (t' := .long) (by decide) (by decide)))
  have F_a1_state := F_a1_state.other W68 (Or.inr (slot_ne (Or.inr (hw _ (List.mem_of_getElem? (i := 58) rfl))) (Or.inr (hw _ (List.mem_of_getElem? (i := 64) rfl))) (by decide) (t := (.object "java/lang/String")) (t' := .long) (by decide) (by decide)))
  have F_a1_standing := F_a1_standing.other W68 (Or.inr (slot_ne (Or.inr (hw _ (List.mem_of_getElem? (i := 60) rfl))) (Or.inr (hw _ (List.mem_of_getElem? (i := 64) rfl))) (by decide) (t := (.object "com/example/tillbridge/tillbridge/channel/Bill$Standing")) (t' := .long) (by decide) (by decide)))
  have F_a1_amount := F_a1_amount.other W68 (Or.inr (slot_ne (Or.inr (hw _ (List.mem_of_getElem? (i := 62) rfl))) (Or.inr (hw _ (List.mem_of_getElem? (i := 64) rfl))) (by decide) (t := .long) (t' := .long) (by decide) (by decide)))
  have F_a1_fee := F_a1_fee.other W68 (Or.inr (slot_ne (Or.inr (hw _ (List.mem_of_getElem? (i := 66) rfl))) (Or.inr (hw _ (List.mem_of_getElem? (i := 64) rfl))) (by decide) (t := .long) (t' := .long) (by decide) (by decide)))
  have E_a1 := E_a1.wr W68
  have K0 := K0.wr W68 (Or.inl (List.mem_of_getElem? (i := 0) rfl))
  have Z0 := own_szW Z0 W68
  refine ownVia st68 ?_
  show ownFin _ _ _ _ _ (T68.setTop (mkF m 80 #[.val (.ref a1), .val (.ref a2), .val (.ref a3), .val .null, .val (.ref a5), .val (.long q1), .second, .val (.long q2), .second, .val (.long q3), .second] []))
  refine ownVia (fun _ k => XS.aloadN X68.here hx rfl (hb hby d7_80) rfl rfl k) ?_
  show ownFin _ _ _ _ _ (T68.setTop (mkF m 81 #[.val (.ref a1), .val (.ref a2), .val (.ref a3), .val .null, .val (.ref a5), .val (.long q1), .second, .val (.long q2), .second, .val (.long q3), .second] [(.ref a1)]))
  refine ownVia (fun _ k => XS.lload X68.here hx rfl (hb hby d7_81) rfl k) ?_
  show ownFin _ _ _ _ _ (T68.setTop (mkF m 83 #[.val (.ref a1), .val (.ref a2), .val (.ref a3), .val .null, .val (.ref a5), .val (.long q1), .second, .val (.long q2), .second, .val (.long q3), .second] [(.long q3), (.ref a1)]))
  obtain ⟨T69, h69, X69, e69, W69, st69⟩ := putF X68 hx hZ hown (host := "") (Or.inl (hw _ (List.mem_of_getElem? (i := 65) rfl))) Via.refl e68 F_a1_fee E_a1 (Or.inr ⟨(hw _ (List.mem_of_getElem? (i := 66) rfl)), rfl, hnm⟩) (hw _ (List.mem_of_getElem? (i := 36) rfl)) (ty := .long) (by decide) rfl rfl (g := (mkF m 83 #[.val (.ref a1), .val (.ref a2), .val (.ref a3), .val .null, .val (.ref a5), .val (.long q1), .second, .val (.long q2), .second, .val (.long q3), .second] [(.long q3), (.ref a1)])) rfl rfl (hb hby d7_83)
  have N69 := Fr.snoc X69 N68 ge_a1
  have F_a1_fee := F_a1_fee.same W69
  have F_a1_outTradeNo := F_a1_outTradeNo.other W69 (Or.inr (slot_ne (Or.inr (hw _ (List.mem_of_getElem? (i := 54) rfl))) (Or.inr (hw _ (List.mem_of_getElem? (i := 66) rfl))) (by decide) (t := (.object "java/lang/String")) (t' := .long) (by decide) (by decide)))
  have F_a1_outRefundNo := F_a1_outRefundNo.other W69 (Or.inr (slot_ne (Or.inr (hw _ (List.mem_of_getElem? (i := 56) rfl))) (Or.inr (hw _ (List.mem_of_getElem? (i := 66) rfl))) (by decide) (t := (.object "java/lang/String")) (t' := .long) (by decide) (by decide)))
  have F_a1_state := F_a1_state.other W69 (Or.inr (slot_ne (Or.inr (hw _ (List.mem_of_getElem? (i := 58) rfl))) (Or.inr (hw _ (List.mem_of_getElem? (i := 66) rfl))) (by decide) (t := (.object "java/lang/String")) (t' := .long) (by decide) (by decide)))
  have F_a1_standing := F_a1_standing.other W69 (Or.inr (slot_ne (Or.inr (hw _ (List.mem_of_getElem? (i := 60) rfl))) (Or.inr (hw _ (List.mem_of_getElem? (i := 66) rfl))) (by decide) (t := (.object "com/example/tillbridge/tillbridge/channel/Bill$Standing")) (t' := .long) (by decide) (by decide)))
  have F_a1_amount := F_a1_amount.other W69 (Or.inr (slot_ne (Or.inr (hw _ (List.mem_of_getElem? (i := 62) rfl))) (Or.inr (hw _ (List.mem_of_getElem? (i := 66) rfl))) (by decide) (t := .long) (t' := .long) (by decide) (by decide)))
  have F_a1_couponRefund := F_a1_couponRefund.other W69 (Or.inr (slot_ne (Or.inr (hw _ (List.mem_of_getElem? (i := 64) rfl))) (Or.inr (hw _ (List.mem_of_getElem? (i := 66) rfl))) (by decide) (t := .long) (t' := .long) (by decide) (by decide)))
  have E_a1 := E_a1.wr W69
  have K0 := K0.wr W69 (Or.inl (List.mem_of_getElem? (i := 0) rfl))
  have Z0 := own_szW Z0 W69
  refine ownVia st69 ?_
  show ownFin _ _ _ _ _ (T69.setTop (mkF m 86 #[.val (.ref a1), .val (.ref a2), .val (.ref a3), .val .null, .val (.ref a5), .val (.long q1), .second, .val (.long q2), .second, .val (.long q3), .second] []))
  refine ownRetV X69 hx hlk hret (hb hby d7_86) (by decide) (by decide) ?_
  show (Q_own_line_rn Z a1 a2 a3 a5 q1 q2 q3 h0 n0 ) none T69.heap _
  rw [e69]
  exact ⟨rfl, N69, K0, F_a1_outRefundNo⟩
theorem own_ef70 (m : MethodId) (a1 : Addr) (a2 : Addr) (a3 : Addr) (a4 : Addr) (a5 : Addr) (q1 : Int64) (q2 : Int64) (q3 : Int64) : entryFrame m #[(.ref a1), (.ref a2), (.ref a3), (.ref a4), (.ref a5), (.long q1), (.long q2), (.long q3)] 11 = mkF m 0 #[.val (.ref a1), .val (.ref a2), .val (.ref a3), .val (.ref a4), .val (.ref a5), .val (.long q1), .second, .val (.long q2), .second, .val (.long q3), .second] [] := by first | (simp [entryFrame, mkF, argsToLocals, Value.category]; done) | rfl
def Q_own_line_rr (Z : State) (a1 : Addr) (a2 : Addr) (a3 : Addr) (a4 : Addr) (a5 : Addr) (q1 : Int64) (q2 : Int64) (q3 : Int64) (h0 : Heap) (n0 : Nat)  : Option Value → Heap → List Loc → Prop := fun v h L => v = none ∧ Fr n0 L ∧ Keep h0 h [a1] ∧ Fld Z h a1 "com/example/tillbridge/tillbridge/channel/Bill$Line" "outRefundNo" "Ljava/lang/String;" (.ref a3)
set_option maxRecDepth 65536 in
set_option maxHeartbeats 40000000 in
theorem own_line_rr (l : Launch) (Z : State) (a0 : Array Value) (hw : ∀ d ∈ tables_1, d.before a0 Z = true)  (a1 : Addr) (a2 : Addr) (a3 : Addr) (a4 : Addr) (a5 : Addr) (q1 : Int64) (q2 : Int64) (q3 : Int64) (h0 : Heap) (n0 : Nat)  (Z0 : n0 ≤ h0.size) (F_a1_outTradeNo : Fld Z h0 a1 "com/example/tillbridge/tillbridge/channel/Bill$Line" "outTradeNo" "Ljava/lang/String;" .null) (F_a1_outRefundNo : Fld Z h0 a1 "com/example/tillbridge/tillbridge/channel/Bill$Line" "outRefundNo" "Ljava/lang/String;" .null) (F_a1_state : Fld Z h0 a1 "com/example/tillbridge/tillbridge/channel/Bill$Line" "state" "Ljava/lang/String;" .null) (F_a1_standing : Fld Z h0 a1 "com/example/tillbridge/tillbridge/channel/Bill$Line" "standing" "Lcom/example/tillbridge/tillbridge/channel/Bill$Standing;" .null) (F_a1_amount : Fld Z h0 a1 "com/example/tillbridge/tillbridge/channel/Bill$Line" "amount" "J" (.long (0 : Int64))) (F_a1_couponRefund : Fld Z h0 a1 "com/example/tillbridge/tillbridge/channel/Bill$Line" "couponRefund" "J" (.long (0 : Int64))) (F_a1_fee : Fld Z h0 a1 "com/example/tillbridge/tillbridge/channel/Bill$Line" "fee" "J" (.long (0 : Int64))) (E_a1 : Exa Z h0 a1 "com/example/tillbridge/tillbridge/channel/Bill$Line") (ge_a1 : n0 ≤ a1) (h1 : own_la q1 = 1) (h2 : own_la q2 = 1) (h3 : own_la q3 = 1) :
    ownMet l Z (⟨"com/example/tillbridge/tillbridge/channel/Bill$Line", "<init>", "(Ljava/lang/String;Ljava/lang/String;Ljava/lang/String;Lcom/example/tillbridge/tillbridge/channel/Bill$Standing;JJJ)V"⟩ : MethodName) prog_7_method_1_code 11 none [] ({ frames := 2, cells := 0, slots := 0, locals := 40 } : Room) #[(.ref a1), (.ref a2), (.ref a3), (.ref a4), (.ref a5), (.long q1), (.long q2), (.long q3)] h0 (Q_own_line_rr Z a1 a2 a3 a4 a5 q1 q2 q3 h0 n0 ) := by
  refine ownBody (plainFor_of_name own_pn5) ?_
  intro p e s m below meth c T0 hx hby hml hret hlk hZ hown hnm X0 e0
  have N0 : Fr n0 [] := Fr.nil n0
  refine ownVia (fun _ k => castTop (own_ef70 m a1 a2 a3 a4 a5 q1 q2 q3) k) ?_
  show ownFin _ _ _ _ _ (T0.setTop (mkF m 0 #[.val (.ref a1), .val (.ref a2), .val (.ref a3), .val (.ref a4), .val (.ref a5), .val (.long q1), .second, .val (.long q2), .second, .val (.long q3), .second] []))
  have K0 : Keep h0 h0 [a1] := Keep.refl _ _
  refine ownVia (fun _ k => XS.aloadN X0.here hx rfl (hb hby d7_0) rfl rfl k) ?_
  show ownFin _ _ _ _ _ (T0.setTop (mkF m 1 #[.val (.ref a1), .val (.ref a2), .val (.ref a3), .val (.ref a4), .val (.ref a5), .val (.long q1), .second, .val (.long q2), .second, .val (.long q3), .second] [(.ref a1)]))
  refine ownCallN X0 hx hZ hown rfl (hw _ (List.mem_of_getElem? (i := 41) rfl)) (hw _ (List.mem_of_getElem? (i := 42) rfl)) (hw _ (List.mem_of_getElem? (i := 44) rfl)) (hw _ (List.mem_of_getElem? (i := 45) rfl)) (by decide) e0 (own_rec l Z a0 hw a1 h0 n0 Z0) (by rw [hml]; rfl) a1 [] [] (lenOf own_pd3 rfl) rfl rfl 0 rfl (hb hby d7_1) (by decide) (by decide) (by decide) (by decide) ?_
  intro v71 T71 L71 X71 hq71
  obtain ⟨rfl, N71q, eq71⟩ := hq71
  have N71 := Fr.app N0 N71q
  have e71 : T71.heap = h0 := eq71
  show ownFin _ _ _ _ _ (T71.setTop (mkF m 4 #[.val (.ref a1), .val (.ref a2), .val (.ref a3), .val (.ref a4), .val (.ref a5), .val (.long q1), .second, .val (.long q2), .second, .val (.long q3), .second] []))
  refine ownVia (fun _ k => XS.lload X71.here hx rfl (hb hby d7_4) rfl k) ?_
  show ownFin _ _ _ _ _ (T71.setTop (mkF m 6 #[.val (.ref a1), .val (.ref a2), .val (.ref a3), .val (.ref a4), .val (.ref a5), .val (.long q1), .second, .val (.long q2), .second, .val (.long q3), .second] [(.long q1)]))
  refine ownCallS X71 hx hZ hown (hw _ (List.mem_of_getElem? (i := 47) rfl)) (hw _ (List.mem_of_getElem? (i := 48) rfl)) (hw _ (List.mem_of_getElem? (i := 49) rfl)) (hw _ (List.mem_of_getElem? (i := 50) rfl)) (by decide) e71 (own_isla l Z a0 hw q1 h0 n0 Z0) (by rw [hml]; rfl) [(.long q1)] [] (lenOf own_pd4 rfl) rfl rfl 0 rfl (hb hby d7_6) (by decide) (by decide) (by decide) (by decide) ?_
  intro v72 T72 L72 X72 hq72
  obtain ⟨rfl, N72q, eq72⟩ := hq72
  have N72 := Fr.app N71 N72q
  have e72 : T72.heap = h0 := eq72
  show ownFin _ _ _ _ _ (T72.setTop (mkF m 9 #[.val (.ref a1), .val (.ref a2), .val (.ref a3), .val (.ref a4), .val (.ref a5), .val (.long q1), .second, .val (.long q2), .second, .val (.long q3), .second] [(.int (own_la q1))]))
  refine ownVia (fun _ k => XS.ifNo X72.here hx rfl (hb hby d7_9) rfl ((if0 _ _).trans (feq (by rw [h1]; decide)).1) k) ?_
  show ownFin _ _ _ _ _ (T72.setTop (mkF m 12 #[.val (.ref a1), .val (.ref a2), .val (.ref a3), .val (.ref a4), .val (.ref a5), .val (.long q1), .second, .val (.long q2), .second, .val (.long q3), .second] []))
  refine ownVia (fun _ k => XS.lload X72.here hx rfl (hb hby d7_12) rfl k) ?_
  show ownFin _ _ _ _ _ (T72.setTop (mkF m 14 #[.val (.ref a1), .val (.ref a2), .val (.ref a3), .val (.ref a4), .val (.ref a5), .val (.long q1), .second, .val (.long q2), .second, .val (.long q3), .second] [(.long q2)]))
  refine ownCallS X72 hx hZ hown (hw _ (List.mem_of_getElem? (i := 47) rfl)) (hw _ (List.mem_of_getElem? (i := 48) rfl)) (hw _ (List.mem_of_getElem? (i := 49) rfl)) (hw _ (List.mem_of_getElem? (i := 50) rfl)) (by decide) e72 (own_isla l Z a0 hw q2 h0 n0 Z0) (by rw [hml]; rfl) [(.long q2)] [] (lenOf own_pd4 rfl) rfl rfl 0 rfl (hb hby d7_14) (by decide) (by decide) (by decide) (by decide) ?_
  intro v73 T73 L73 X73 hq73
  obtain ⟨rfl, N73q, eq73⟩ := hq73
  have N73 := Fr.app N72 N73q
  have e73 : T73.heap = h0 := eq73
  show ownFin _ _ _ _ _ (T73.setTop (mkF m 17 #[.val (.ref a1), .val (.ref a2), .val (.ref a3), .val (.ref a4), .val (.ref a5), .val (.long q1), .second, .val (.long q2), .second, .val (.long q3), .second] [(.int (own_la q2))]))
  refine ownVia (fun _ k => XS.ifNo X73.here hx rfl (hb hby d7_17) rfl ((if0 _ _).trans (feq (by rw [h2]; decide)).1) k) ?_
  show ownFin _ _ _ _ _ (T73.setTop (mkF m 20 #[.val (.ref a1), .val (.ref a2), .val (.ref a3), .val (.ref a4), .val (.ref a5), .val (.long q1), .second, .val (.long q2), .second, .val (.long q3), .second] []))
  refine ownVia (fun _ k => XS.lload X73.here hx rfl (hb hby d7_20) rfl k) ?_
  show ownFin _ _ _ _ _ (T73.setTop (mkF m 22 #[.val (.ref a1), .val (.ref a2), .val (.ref a3), .val (.ref a4), .val (.ref a5), .val (.long q1), .second, .val (.long q2), .second, .val (.long q3), .second] [(.long q3)]))
  refine ownCallS X73 hx hZ hown (hw _ (List.mem_of_getElem? (i := 47) rfl)) (hw _ (List.mem_of_getElem? (i := 48) rfl)) (hw _ (List.mem_of_getElem? (i := 49) rfl)) (hw _ (List.mem_of_getElem? (i := 50) rfl)) (by decide) e73 (own_isla l Z a0 hw q3 h0 n0 Z0) (by rw [hml]; rfl) [(.long q3)] [] (lenOf own_pd4 rfl) rfl rfl 0 rfl (hb hby d7_22) (by decide) (by decide) (by decide) (by decide) ?_
  intro v74 T74 L74 X74 hq74
  obtain ⟨rfl, N74q, eq74⟩ := hq74
  have N74 := Fr.app N73 N74q
  have e74 : T74.heap = h0 := eq74
  show ownFin _ _ _ _ _ (T74.setTop (mkF m 25 #[.val (.ref a1), .val (.ref a2), .val (.ref a3), .val (.ref a4), .val (.ref a5), .val (.long q1), .second, .val (.long q2), .second, .val (.long q3), .second] [(.int (own_la q3))]))
  refine ownVia (fun _ k => XS.ifYes X74.here hx rfl (pc0 := 25) (pc' := 47) rfl (hb hby d7_25) rfl ((if0 _ _).trans (feq (by rw [h3]; decide)).2) (by decide) (by decide) k) ?_
  show ownFin _ _ _ _ _ (T74.setTop (mkF m 47 #[.val (.ref a1), .val (.ref a2), .val (.ref a3), .val (.ref a4), .val (.ref a5), .val (.long q1), .second, .val (.long q2), .second, .val (.long q3), .second] []))
  refine ownVia (fun _ k => XS.aloadN X74.here hx rfl (hb hby d7_47) rfl rfl k) ?_
  show ownFin _ _ _ _ _ (T74.setTop (mkF m 48 #[.val (.ref a1), .val (.ref a2), .val (.ref a3), .val (.ref a4), .val (.ref a5), .val (.long q1), .second, .val (.long q2), .second, .val (.long q3), .second] [(.ref a1)]))
  refine ownVia (fun _ k => XS.aloadN X74.here hx rfl (hb hby d7_48) rfl rfl k) ?_
  show ownFin _ _ _ _ _ (T74.setTop (mkF m 49 #[.val (.ref a1), .val (.ref a2), .val (.ref a3), .val (.ref a4), .val (.ref a5), .val (.long q1), .second, .val (.long q2), .second, .val (.long q3), .second] [(.ref a2), (.ref a1)]))
  obtain ⟨T75, h75, X75, e75, W75, st75⟩ := putF X74 hx hZ hown (host := "") (Or.inl (hw _ (List.mem_of_getElem? (i := 53) rfl))) Via.refl e74 F_a1_outTradeNo E_a1 (Or.inr ⟨(hw _ (List.mem_of_getElem? (i := 54) rfl)), rfl, hnm⟩) (hw _ (List.mem_of_getElem? (i := 36) rfl)) (ty := (.object "java/lang/String")) (by decide) rfl rfl (g := (mkF m 49 #[.val (.ref a1), .val (.ref a2), .val (.ref a3), .val (.ref a4), .val (.ref a5), .val (.long q1), .second, .val (.long q2), .second, .val (.long q3), .second] [(.ref a2), (.ref a1)])) rfl rfl (hb hby d7_49)
  have N75 := Fr.snoc X75 N74 ge_a1
  have F_a1_outTradeNo := F_a1_outTradeNo.same W75
  have F_a1_outRefundNo := F_a1_outRefundNo.other W75 (Or.inr (slot_ne (Or.inr (hw _ (List.mem_of_getElem? (i := 56) rfl))) (Or.inr (hw _ (List.mem_of_getElem? (i := 54) rfl))) (by decide) (t := (.object "java/lang/String")) (t' := (.object "java/lang/String")) (by decide) (by decide)))
  have F_a1_state := F_a1_state.other W75 (Or.inr (slot_ne (Or.inr (hw _ (List.mem_of_getElem? (i := 58) rfl))) (Or.inr (hw _ (List.mem_of_getElem? (i := 54) rfl))) (by decide) (t := (.object "java/lang/String")) (t' := (.object "java/lang/String")) (by decide) (by decide)))
  have F_a1_standing := F_a1_standing.other W75 (Or.inr (slot_ne (Or.inr (hw _ (List.mem_of_getElem? (i := 60) rfl))) (Or.inr (hw _ (List.mem_of_getElem? (i := 54) rfl))) (by decide) (t := (.object "com/example/tillbridge/tillbridge/channel/Bill$Standing")) (t' := (.object "java/lang/String")) (by decide) (by decide)))
  have F_a1_amount := F_a1_amount.other W75 (Or.inr (slot_ne (Or.inr (hw _ (List.mem_of_getElem? (i := 62) rfl))) (Or.inr (hw _ (List.mem_of_getElem? (i := 54) rfl))) (by decide) (t := .long) (t' := (.object "java/lang/String")) (by decide) (by decide)))
  have F_a1_couponRefund := F_a1_couponRefund.other W75 (Or.inr (slot_ne (Or.inr (hw _ (List.mem_of_getElem? (i := 64) rfl))) (Or.inr (hw _ (List.mem_of_getElem? (i := 54) rfl))) (by decide) (t := .long) (t' := (.object "java/lang/String")) (by decide) (by decide)))
  have F_a1_fee := F_a1_fee.other W75 (Or.inr (slot_ne (Or.inr (hw _ (List.mem_of_getElem? (i := 66) rfl))) (Or.inr (hw _ (List.mem_of_getElem? (i := 54) rfl))) (by decide) (t := .long) (t' := (.object "java/lang/String")) (by decide) (by decide)))
  have E_a1 := E_a1.wr W75
  have K0 := K0.wr W75 (Or.inl (List.mem_of_getElem? (i := 0) rfl))
  have Z0 := own_szW Z0 W75
  refine ownVia st75 ?_
  show ownFin _ _ _ _ _ (T75.setTop (mkF m 52 #[.val (.ref a1), .val (.ref a2), .val (.ref a3), .val (.ref a4), .val (.ref a5), .val (.long q1), .second, .val (.long q2), .second, .val (.long q3), .second] []))
  refine ownVia (fun _ k => XS.aloadN X75.here hx rfl (hb hby d7_52) rfl rfl k) ?_
  show ownFin _ _ _ _ _ (T75.setTop (mkF m 53 #[.val (.ref a1), .val (.ref a2), .val (.ref a3), .val (.ref a4), .val (.ref a5), .val (.long q1), .second, .val (.long q2), .second, .val (.long q3), .second] [(.ref a1)]))
  refine ownVia (fun _ k => XS.aloadN X75.here hx rfl (hb hby d7_53) rfl rfl k) ?_
  show ownFin _ _ _ _ _ (T75.setTop (mkF m 54 #[.val (.ref a1), .val (.ref a2), .val (.ref a3), .val (.ref a4), .val (.ref a5), .val (.long q1), .second, .val (.long q2), .second, .val (.long q3), .second] [(.ref a3), (.ref a1)]))
  obtain ⟨T76, h76, X76, e76, W76, st76⟩ := putF X75 hx hZ hown (host := "") (Or.inl (hw _ (List.mem_of_getElem? (i := 55) rfl))) Via.refl e75 F_a1_outRefundNo E_a1 (Or.inr ⟨(hw _ (List.mem_of_getElem? (i := 56) rfl)), rfl, hnm⟩) (hw _ (List.mem_of_getElem? (i := 36) rfl)) (ty := (.object "java/lang/String")) (by decide) rfl rfl (g := (mkF m 54 #[.val (.ref a1), .val (.ref a2), .val (.ref a3), .val (.ref a4), .val (.ref a5), .val (.long q1), .second, .val (.long q2), .second, .val (.long q3), .second] [(.ref a3), (.ref a1)])) rfl rfl (hb hby d7_54)
  have N76 := Fr.snoc X76 N75 ge_a1
  have F_a1_outRefundNo := F_a1_outRefundNo.same W76
  have F_a1_outTradeNo := F_a1_outTradeNo.other W76 (Or.inr (slot_ne (Or.inr (hw _ (List.mem_of_getElem? (i := 54) rfl))) (Or.inr (hw _ (List.mem_of_getElem? (i := 56) rfl))) (by decide) (t := (.object "java/lang/String")) (t' := (.object "java/lang/String")) (by decide) (by decide)))
  have F_a1_state := F_a1_state.other W76 (Or.inr (slot_ne (Or.inr (hw _ (List.mem_of_getElem? (i := 58) rfl))) (Or.inr (hw _ (List.mem_of_getElem? (i := 56) rfl))) (by decide) (t := (.object "java/lang/String")) (t' := (.object "java/lang/String")) (by decide) (by decide)))
  have F_a1_standing := F_a1_standing.other W76 (Or.inr (slot_ne (Or.inr (hw _ (List.mem_of_getElem? (i := 60) rfl))) (Or.inr (hw _ (List.mem_of_getElem? (i := 56) rfl))) (by decide) (t := (.object "com/example/tillbridge/tillbridge/channel/Bill$Standing")) (t' := (.object "java/lang/String")) (by decide) (by decide)))
  have F_a1_amount := F_a1_amount.other W76 (Or.inr (slot_ne (Or.inr (hw _ (List.mem_of_getElem? (i := 62) rfl))) (Or.inr (hw _ (List.mem_of_getElem? (i := 56) rfl))) (by decide) (t := .long) (t' := (.object "java/lang/String")) (by decide) (by decide)))
  have F_a1_couponRefund := F_a1_couponRefund.other W76 (Or.inr (slot_ne (Or.inr (hw _ (List.mem_of_getElem? (i := 64) rfl))) (Or.inr (hw _ (List.mem_of_getElem? (i := 56) rfl))) (by decide) (t := .long) (t' := (.object "java/lang/String")) (by decide) (by decide)))
  have F_a1_fee := F_a1_fee.other W76 (Or.inr (slot_ne (Or.inr (hw _ (List.mem_of_getElem? (i := 66) rfl))) (Or.inr (hw _ (List.mem_of_getElem? (i := 56) rfl))) (by decide) (t := .long) (t' := (.object "java/lang/String")) (by decide) (by decide)))
  have E_a1 := E_a1.wr W76
  have K0 := K0.wr W76 (Or.inl (List.mem_of_getElem? (i := 0) rfl))
  have Z0 := own_szW Z0 W76
  refine ownVia st76 ?_
  show ownFin _ _ _ _ _ (T76.setTop (mkF m 57 #[.val (.ref a1), .val (.ref a2), .val (.ref a3), .val (.ref a4), .val (.ref a5), .val (.long q1), .second, .val (.long q2), .second, .val (.long q3), .second] []))
  refine ownVia (fun _ k => XS.aloadN X76.here hx rfl (hb hby d7_57) rfl rfl k) ?_
  show ownFin _ _ _ _ _ (T76.setTop (mkF m 58 #[.val (.ref a1), .val (.ref a2), .val (.ref a3), .val (.ref a4), .val (.ref a5), .val (.long q1), .second, .val (.long q2), .second, .val (.long q3), .second] [(.ref a1)]))
  refine ownVia (fun _ k => XS.aloadN X76.here hx rfl (hb hby d7_58) rfl rfl k) ?_
  show ownFin _ _ _ _ _ (T76.setTop (mkF m 59 #[.val (.ref a1), .val (.ref a2), .val (.ref a3), .val (.ref a4), .val (.ref a5), .val (.long q1), .second, .val (.long q2), .second, .val (.long q3), .second] [(.ref a4), (.ref a1)]))
  obtain ⟨T77, h77, X77, e77, W77, st77⟩ := putF X76 hx hZ hown (host := "") (Or.inl (hw _ (List.mem_of_getElem? (i := 57) rfl))) Via.refl e76 F_a1_state E_a1 (Or.inr ⟨(hw _ (List.mem_of_getElem? (i := 58) rfl)), rfl, hnm⟩) (hw _ (List.mem_of_getElem? (i := 36) rfl)) (ty := (.object "java/lang/String")) (by decide) rfl rfl (g := (mkF m 59 #[.val (.ref a1), .val (.ref a2), .val (.ref a3), .val (.ref a4), .val (.ref a5), .val (.long q1), .second, .val (.long q2), .second, .val (.long q3), .second] [(.ref a4), (.ref a1)])) rfl rfl (hb hby d7_59)
  have N77 := Fr.snoc X77 N76 ge_a1
  have F_a1_state := F_a1_state.same W77
  have F_a1_outTradeNo := F_a1_outTradeNo.other W77 (Or.inr (slot_ne (Or.inr (hw _ (List.mem_of_getElem? (i := 54) rfl))) (Or.inr (hw _ (List.mem_of_getElem? (i := 58) rfl))) (by decide) (t := (.object "java/lang/String")) (t' := (.object "java/lang/String")) (by decide) (by decide)))
  have F_a1_outRefundNo := F_a1_outRefundNo.other W77 (Or.inr (slot_ne (Or.inr (hw _ (List.mem_of_getElem? (i := 56) rfl))) (Or.inr (hw _ (List.mem_of_getElem? (i := 58) rfl))) (by decide) (t := (.object "java/lang/String")) (t' := (.object "java/lang/String")) (by decide) (by decide)))
  have F_a1_standing := F_a1_standing.other W77 (Or.inr (slot_ne (Or.inr (hw _ (List.mem_of_getElem? (i := 60) rfl))) (Or.inr (hw _ (List.mem_of_getElem? (i := 58) rfl))) (by decide) (t := (.object "com/example/tillbridge/tillbridge/channel/Bill$Standing")) (t' := (.object "java/lang/String")) (by decide) (by decide)))
  have F_a1_amount := F_a1_amount.other W77 (Or.inr (slot_ne (Or.inr (hw _ (List.mem_of_getElem? (i := 62) rfl))) (Or.inr (hw _ (List.mem_of_getElem? (i := 58) rfl))) (by decide) (t := .long) (t' := (.object "java/lang/String")) (by decide) (by decide)))
  have F_a1_couponRefund := F_a1_couponRefund.other W77 (Or.inr (slot_ne (Or.inr (hw _ (List.mem_of_getElem? (i := 64) rfl))) (Or.inr (hw _ (List.mem_of_getElem? (i := 58) rfl))) (by decide) (t := .long) (t' := (.object "java/lang/String")) (by decide) (by decide)))
  have F_a1_fee := F_a1_fee.other W77 (Or.inr (slot_ne (Or.inr (hw _ (List.mem_of_getElem? (i := 66) rfl))) (Or.inr (hw _ (List.mem_of_getElem? (i := 58) rfl))) (by decide) (t := .long) (t' := (.object "java/lang/String")) (by decide) (by decide)))
  have E_a1 := E_a1.wr W77
  have K0 := K0.wr W77 (Or.inl (List.mem_of_getElem? (i := 0) rfl))
  have Z0 := own_szW Z0 W77
  refine ownVia st77 ?_
  show ownFin _ _ _ _ _ (T77.setTop (mkF m 62 #[.val (.ref a1), .val (.ref a2), .val (.ref a3), .val (.ref a4), .val (.ref a5), .val (.long q1), .second, .val (.long q2), .second, .val (.long q3), .second] []))
  refine ownVia (fun _ k => XS.aloadN X77.here hx rfl (hb hby d7_62) rfl rfl k) ?_
  show ownFin _ _ _ _ _ (T77.setTop (mkF m 63 #[.val (.ref a1), .val (.ref a2), .val (.ref a3), .val (.ref a4), .val (.ref a5), .val (.long q1), .second, .val (.long q2), .second, .val (.long q3), .second] [(.ref a1)]))
  refine ownVia (fun _ k => XS.aload X77.here hx rfl (hb hby d7_63) rfl rfl k) ?_
  show ownFin _ _ _ _ _ (T77.setTop (mkF m 65 #[.val (.ref a1), .val (.ref a2), .val (.ref a3), .val (.ref a4), .val (.ref a5), .val (.long q1), .second, .val (.long q2), .second, .val (.long q3), .second] [(.ref a5), (.ref a1)]))
  obtain ⟨T78, h78, X78, e78, W78, st78⟩ := putF X77 hx hZ hown (host := "") (Or.inl (hw _ (List.mem_of_getElem? (i := 59) rfl))) Via.refl e77 F_a1_standing E_a1 (Or.inr ⟨(hw _ (List.mem_of_getElem? (i := 60) rfl)), rfl, hnm⟩) (hw _ (List.mem_of_getElem? (i := 36) rfl)) (ty := (.object "com/example/tillbridge/tillbridge/channel/Bill$Standing")) (by decide) rfl rfl (g := (mkF m 65 #[.val (.ref a1), .val (.ref a2), .val (.ref a3), .val (.ref a4), .val (.ref a5), .val (.long q1), .second, .val (.long q2), .second, .val (.long q3), .second] [(.ref a5), (.ref a1)])) rfl rfl (hb hby d7_65)
  have N78 := Fr.snoc X78 N77 ge_a1
  have F_a1_standing := F_a1_standing.same W78
  have F_a1_outTradeNo := F_a1_outTradeNo.other W78 (Or.inr (slot_ne (Or.inr (hw _ (List.mem_of_getElem? (i := 54) rfl))) (Or.inr (hw _ (List.mem_of_getElem? (i := 60) rfl))) (by decide) (t := (.object "java/lang/String")) (t' := (.object "com/example/tillbridge/tillbridge/channel/Bill$Standing")) (by decide) (by decide)))
  have F_a1_outRefundNo := F_a1_outRefundNo.other W78 (Or.inr (slot_ne (Or.inr (hw _ (List.mem_of_getElem? (i := 56) rfl))) (Or.inr (hw _ (List.mem_of_getElem? (i := 60) rfl))) (by decide) (t := (.object "java/lang/String")) (t' := (.object "com/example/tillbridge/tillbridge/channel/Bill$Standing")) (by decide) (by decide)))
  have F_a1_state := F_a1_state.other W78 (Or.inr (slot_ne (Or.inr (hw _ (List.mem_of_getElem? (i := 58) rfl))) (Or.inr (hw _ (List.mem_of_getElem? (i := 60) rfl))) (by decide) (t := (.object "java/lang/String")) (t' := (.object "com/example/tillbridge/tillbridge/channel/Bill$Standing")) (by decide) (by decide)))
  have F_a1_amount := F_a1_amount.other W78 (Or.inr (slot_ne (Or.inr (hw _ (List.mem_of_getElem? (i := 62) rfl))) (Or.inr (hw _ (List.mem_of_getElem? (i := 60) rfl))) (by decide) (t := .long) (t' := (.object "com/example/tillbridge/tillbridge/channel/Bill$Standing")) (by decide) (by decide)))
  have F_a1_couponRefund := F_a1_couponRefund.other W78 (Or.inr (slot_ne (Or.inr (hw _ (List.mem_of_getElem? (i := 64) rfl))) (Or.inr (hw _ (List.mem_of_getElem? (i := 60) rfl))) (by decide) (t := .long) (t' := (.object "com/example/tillbridge/tillbridge/channel/Bill$Standing")) (by decide) (by decide)))
  have F_a1_fee := F_a1_fee.other W78 (Or.inr (slot_ne (Or.inr (hw _ (List.mem_of_getElem? (i := 66) rfl))) (Or.inr (hw _ (List.mem_of_getElem? (i := 60) rfl))) (by decide) (t := .long) (t' := (.object "com/example/tillbridge/tillbridge/channel/Bill$Standing")) (by decide) (by decide)))
  have E_a1 := E_a1.wr W78
  have K0 := K0.wr W78 (Or.inl (List.mem_of_getElem? (i := 0) rfl))
  have Z0 := own_szW Z0 W78
  refine ownVia st78 ?_
  show ownFin _ _ _ _ _ (T78.setTop (mkF m 68 #[.val (.ref a1), .val (.ref a2), .val (.ref a3), .val (.ref a4), .val (.ref a5), .val (.long q1), .second, .val (.long q2), .second, .val (.long q3), .second] []))
  refine ownVia (fun _ k => XS.aloadN X78.here hx rfl (hb hby d7_68) rfl rfl k) ?_
  show ownFin _ _ _ _ _ (T78.setTop (mkF m 69 #[.val (.ref a1), .val (.ref a2), .val (.ref a3), .val (.ref a4), .val (.ref a5), .val (.long q1), .second, .val (.long q2), .second, .val (.long q3), .second] [(.ref a1)]))
  refine ownVia (fun _ k => XS.lload X78.here hx rfl (hb hby d7_69) rfl k) ?_
  show ownFin _ _ _ _ _ (T78.setTop (mkF m 71 #[.val (.ref a1), .val (.ref a2), .val (.ref a3), .val (.ref a4), .val (.ref a5), .val (.long q1), .second, .val (.long q2), .second, .val (.long q3), .second] [(.long q1), (.ref a1)]))
  obtain ⟨T79, h79, X79, e79, W79, st79⟩ := putF X78 hx hZ hown (host := "") (Or.inl (hw _ (List.mem_of_getElem? (i := 61) rfl))) Via.refl e78 F_a1_amount E_a1 (Or.inr ⟨(hw _ (List.mem_of_getElem? (i := 62) rfl)), rfl, hnm⟩) (hw _ (List.mem_of_getElem? (i := 36) rfl)) (ty := .long) (by decide) rfl rfl (g := (mkF m 71 #[.val (.ref a1), .val (.ref a2), .val (.ref a3), .val (.ref a4), .val (.ref a5), .val (.long q1), .second, .val (.long q2), .second, .val (.long q3), .second] [(.long q1), (.ref a1)])) rfl rfl (hb hby d7_71)
  have N79 := Fr.snoc X79 N78 ge_a1
  have F_a1_amount := F_a1_amount.same W79
  have F_a1_outTradeNo := F_a1_outTradeNo.other W79 (Or.inr (slot_ne (Or.inr (hw _ (List.mem_of_getElem? (i := 54) rfl))) (Or.inr (hw _ (List.mem_of_getElem? (i := 62) rfl))) (by decide) (t := (.object "java/lang/String")) (t' := .long) (by decide) (by decide)))
  have F_a1_outRefundNo := F_a1_outRefundNo.other W79 (Or.inr (slot_ne (Or.inr (hw _ (List.mem_of_getElem? (i := 56) rfl))) (Or.inr (hw _ (List.mem_of_getElem? (i := 62) rfl))) (by decide) (t := (.object "java/lang/String")) (t' := .long) (by decide) (by decide)))
  have F_a1_state := F_a1_state.other W79 (Or.inr (slot_ne (Or.inr (hw _ (List.mem_of_getElem? (i := 58) rfl))) (Or.inr (hw _ (List.mem_of_getElem? (i := 62) rfl))) (by decide) (t := (.object "java/lang/String")) (t' := .long) (by decide) (by decide)))
  have F_a1_standing := F_a1_standing.other W79 (Or.inr (slot_ne (Or.inr (hw _ (List.mem_of_getElem? (i := 60) rfl))) (Or.inr (hw _ (List.mem_of_getElem? (i := 62) rfl))) (by decide) (t := (.object "com/example/tillbridge/tillbridge/channel/Bill$Standing")) (t' := .long) (by decide) (by decide)))
  have F_a1_couponRefund := F_a1_couponRefund.other W79 (Or.inr (slot_ne (Or.inr (hw _ (List.mem_of_getElem? (i := 64) rfl))) (Or.inr (hw _ (List.mem_of_getElem? (i := 62) rfl))) (by decide) (t := .long) (t' := .long) (by decide) (by decide)))
  have F_a1_fee := F_a1_fee.other W79 (Or.inr (slot_ne (Or.inr (hw _ (List.mem_of_getElem? (i := 66) rfl))) (Or.inr (hw _ (List.mem_of_getElem? (i := 62) rfl))) (by decide) (t := .long) (t' := .long) (by decide) (by decide)))
  have E_a1 := E_a1.wr W79
  have K0 := K0.wr W79 (Or.inl (List.mem_of_getElem? (i := 0) rfl))
  have Z0 := own_szW Z0 W79
  refine ownVia st79 ?_
  show ownFin _ _ _ _ _ (T79.setTop (mkF m 74 #[.val (.ref a1), .val (.ref a2), .val (.ref a3), .val (.ref a4), .val (.ref a5), .val (.long q1), .second, .val (.long q2), .second, .val (.long q3), .second] []))
  refine ownVia (fun _ k => XS.aloadN X79.here hx rfl (hb hby d7_74) rfl rfl k) ?_
  show ownFin _ _ _ _ _ (T79.setTop (mkF m 75 #[.val (.ref a1), .val (.ref a2), .val (.ref a3), .val (.ref a4), .val (.ref a5), .val (.long q1), .second, .val (.long q2), .second, .val (.long q3), .second] [(.ref a1)]))
  refine ownVia (fun _ k => XS.lload X79.here hx rfl (hb hby d7_75) rfl k) ?_
  show ownFin _ _ _ _ _ (T79.setTop (mkF m 77 #[.val (.ref a1), .val (.ref a2), .val (.ref a3), .val (.ref a4), .val (.ref a5), .val (.long q1), .second, .val (.long q2), .second, .val (.long q3), .second] [(.long q2), (.ref a1)]))
  obtain ⟨T80, h80, X80, e80, W80, st80⟩ := putF X79 hx hZ hown (host := "") (Or.inl (hw _ (List.mem_of_getElem? (i := 63) rfl))) Via.refl e79 F_a1_couponRefund E_a1 (Or.inr ⟨(hw _ (List.mem_of_getElem? (i := 64) rfl)), rfl, hnm⟩) (hw _ (List.mem_of_getElem? (i := 36) rfl)) (ty := .long) (by decide) rfl rfl (g := (mkF m 77 #[.val (.ref a1), .val (.ref a2), .val (.ref a3), .val (.ref a4), .val (.ref a5), .val (.long q1), .second, .val (.long q2), .second, .val (.long q3), .second] [(.long q2), (.ref a1)])) rfl rfl (hb hby d7_77)
  have N80 := Fr.snoc X80 N79 ge_a1
  have F_a1_couponRefund := F_a1_couponRefund.same W80
  have F_a1_outTradeNo := F_a1_outTradeNo.other W80 (Or.inr (slot_ne (Or.inr (hw _ (List.mem_of_getElem? (i := 54) rfl))) (Or.inr (hw _ (List.mem_of_getElem? (i := 64) rfl))) (by decide) (t := (.object "java/lang/String")) (t' := .long) (by decide) (by decide)))
  have F_a1_outRefundNo := F_a1_outRefundNo.other W80 (Or.inr (slot_ne (Or.inr (hw _ (List.mem_of_getElem? (i := 56) rfl))) (Or.inr (hw _ (List.mem_of_getElem? (i := 64) rfl))) (by decide) (t := (.object "java/lang/String")) (t' := .long) (by decide) (by decide)))
  have F_a1_state := F_a1_state.other W80 (Or.inr (slot_ne (Or.inr (hw _ (List.mem_of_getElem? (i := 58) rfl))) (Or.inr (hw _ (List.mem_of_getElem? (i := 64) rfl))) (by decide) (t := (.object "java/lang/String")) (t' := .long) (by decide) (by decide)))
  have F_a1_standing := F_a1_standing.other W80 (Or.inr (slot_ne (Or.inr (hw _ (List.mem_of_getElem? (i := 60) rfl))) (Or.inr (hw _ (List.mem_of_getElem? (i := 64) rfl))) (by decide) (t := (.object "com/example/tillbridge/tillbridge/channel/Bill$Standing")) (t' := .long) (by decide) (by decide)))
  have F_a1_amount := F_a1_amount.other W80 (Or.inr (slot_ne (Or.inr (hw _ (List.mem_of_getElem? (i := 62) rfl))) (Or.inr (hw _ (List.mem_of_getElem? (i := 64) rfl))) (by decide) (t := .long) (t' := .long) (by decide) (by decide)))
  have F_a1_fee := F_a1_fee.other W80 (Or.inr (slot_ne (Or.inr (hw _ (List.mem_of_getElem? (i := 66) rfl))) (Or.inr (hw _ (List.mem_of_getElem? (i := 64) rfl))) (by decide) (t := .long) (t' := .long) (by decide) (by decide)))
  have E_a1 := E_a1.wr W80
  have K0 := K0.wr W80 (Or.inl (List.mem_of_getElem? (i := 0) rfl))
  have Z0 := own_szW Z0 W80
  refine ownVia st80 ?_
  show ownFin _ _ _ _ _ (T80.setTop (mkF m 80 #[.val (.ref a1), .val (.ref a2), .val (.ref a3), .val (.ref a4), .val (.ref a5), .val (.long q1), .second, .val (.long q2), .second, .val (.long q3), .second] []))
  refine ownVia (fun _ k => XS.aloadN X80.here hx rfl (hb hby d7_80) rfl rfl k) ?_
  show ownFin _ _ _ _ _ (T80.setTop (mkF m 81 #[.val (.ref a1), .val (.ref a2), .val (.ref a3), .val (.ref a4), .val (.ref a5), .val (.long q1), .second, .val (.long q2), .second, .val (.long q3), .second] [(.ref a1)]))
  refine ownVia (fun _ k => XS.lload X80.here hx rfl (hb hby d7_81) rfl k) ?_
  show ownFin _ _ _ _ _ (T80.setTop (mkF m 83 #[.val (.ref a1), .val (.ref a2), .val (.ref a3), .val (.ref a4), .val (.ref a5), .val (.long q1), .second, .val (.long q2), .second, .val (.long q3), .second] [(.long q3), (.ref a1)]))
  obtain ⟨T81, h81, X81, e81, W81, st81⟩ := putF X80 hx hZ hown (host := "") (Or.inl (hw _ (List.mem_of_getElem? (i := 65) rfl))) Via.refl e80 F_a1_fee E_a1 (Or.inr ⟨(hw _ (List.mem_of_getElem? (i := 66) rfl)), rfl, hnm⟩) (hw _ (List.mem_of_getElem? (i := 36) rfl)) (ty := .long) (by decide) rfl rfl (g := (mkF m 83 #[.val (.ref a1), .val (.ref a2), .val (.ref a3), .val (.ref a4), .val (.ref a5), .val (.long q1), .second, .val (.long q2), .second, .val (.long q3), .second] [(.long q3), (.ref a1)])) rfl rfl (hb hby d7_83)
  have N81 := Fr.snoc X81 N80 ge_a1
  have F_a1_fee := F_a1_fee.same W81
  have F_a1_outTradeNo := F_a1_outTradeNo.other W81 (Or.inr (slot_ne (Or.inr (hw _ (List.mem_of_getElem? (i := 54) rfl))) (Or.inr (hw _ (List.mem_of_getElem? (i := 66) rfl))) (by decide) (t := (.object "java/lang/String")) (t' := .long) (by decide) (by decide)))
  have F_a1_outRefundNo := F_a1_outRefundNo.other W81 (Or.inr (slot_ne (Or.inr (hw _ (List.mem_of_getElem? (i := 56) rfl))) (Or.inr (hw _ (List.mem_of_getElem? (i := 66) rfl))) (by decide) (t := (.object "java/lang/String")) (t' := .long) (by decide) (by decide)))
  have F_a1_state := F_a1_state.other W81 (Or.inr (slot_ne (Or.inr (hw _ (List.mem_of_getElem? (i := 58) rfl))) (Or.inr (hw _ (List.mem_of_getElem? (i := 66) rfl))) (by decide) (t := (.object "java/lang/String")) (t' := .long) (by decide) (by decide)))
  have F_a1_standing := F_a1_standing.other W81 (Or.inr (slot_ne (Or.inr (hw _ (List.mem_of_getElem? (i := 60) rfl))) (Or.inr (hw _ (List.mem_of_getElem? (i := 66) rfl))) (by decide) (t := (.object "com/example/tillbridge/tillbridge/channel/Bill$Standing")) (t' := .long) (by decide) (by decide)))
  have F_a1_amount := F_a1_amount.other W81 (Or.inr (slot_ne (Or.inr (hw _ (List.mem_of_getElem? (i := 62) rfl))) (Or.inr (hw _ (List.mem_of_getElem? (i := 66) rfl))) (by decide) (t := .long) (t' := .long) (by decide) (by decide)))
  have F_a1_couponRefund := F_a1_couponRefund.other W81 (Or.inr (slot_ne (Or.inr (hw _ (List.mem_of_getElem? (i := 64) rfl))) (Or.inr (hw _ (List.mem_of_getElem? (i := 66) rfl))) (by decide) (t := .long) (t' := .long) (by decide) (by decide)))
  have E_a1 := E_a1.wr W81
  have K0 := K0.wr W81 (Or.inl (List.mem_of_getElem? (i := 0) rfl))
  have Z0 := own_szW Z0 W81
  refine ownVia st81 ?_
  show ownFin _ _ _ _ _ (T81.setTop (mkF m 86 #[.val (.ref a1), .val (.ref a2), .val (.ref a3), .val (.ref a4), .val (.ref a5), .val (.long q1), .second, .val (.long q2), .second, .val (.long q3), .second] []))
  refine ownRetV X81 hx hlk hret (hb hby d7_86) (by decide) (by decide) ?_
  show (Q_own_line_rr Z a1 a2 a3 a4 a5 q1 q2 q3 h0 n0 ) none T81.heap _
  rw [e81]
  exact ⟨rfl, N81, K0, F_a1_outRefundNo⟩
theorem d10_0 : decode prog_7_method_2_code 0 = .ok (.aload_n 0, 1) := by decide +kernel
theorem d10_1 : decode prog_7_method_2_code 1 = .ok (.getfield 28, 3) := by decide +kernel
theorem d10_4 : decode prog_7_method_2_code 4 = .ok (.ifnull 7, 3) := by decide +kernel
theorem d10_7 : decode prog_7_method_2_code 7 = .ok (.iconst 1, 1) := by decide +kernel
theorem d10_8 : decode prog_7_method_2_code 8 = .ok (.goto 4, 3) := by decide +kernel
theorem d10_11 : decode prog_7_method_2_code 11 = .ok (.iconst 0, 1) := by decide +kernel
theorem d10_12 : decode prog_7_method_2_code 12 = .ok (.ireturn, 1) := by decide +kernel
theorem own_ef82 (m : MethodId) (a1 : Addr) : entryFrame m #[(.ref a1)] 1 = mkF m 0 #[.val (.ref a1)] [] := by first | (simp [entryFrame, mkF, argsToLocals, Value.category]; done) | rfl
def Q_own_isr_n (Z : State) (a1 : Addr) (h0 : Heap) (n0 : Nat)  : Option Value → Heap → List Loc → Prop := fun v h L => v = some (.int 0) ∧ Fr n0 L ∧ h = h0
set_option maxRecDepth 65536 in
set_option maxHeartbeats 40000000 in
theorem own_isr_n (l : Launch) (Z : State) (a0 : Array Value) (hw : ∀ d ∈ tables_1, d.before a0 Z = true)  (a1 : Addr) (h0 : Heap) (n0 : Nat)  (Z0 : n0 ≤ h0.size) (F : Fld Z h0 a1 "com/example/tillbridge/tillbridge/channel/Bill$Line" "outRefundNo" "Ljava/lang/String;" .null) :
    ownMet l Z (⟨"com/example/tillbridge/tillbridge/channel/Bill$Line", "isRefund", "()Z"⟩ : MethodName) prog_7_method_2_code 1 (some .boolean) [] ({ frames := 0, cells := 0, slots := 0, locals := 0 } : Room) #[(.ref a1)] h0 (Q_own_isr_n Z a1 h0 n0 ) := by
  refine ownBody (plainFor_of_name own_pn5) ?_
  intro p e s m below meth c T0 hx hby hml hret hlk hZ hown hnm X0 e0
  have N0 : Fr n0 [] := Fr.nil n0
  refine ownVia (fun _ k => castTop (own_ef82 m a1) k) ?_
  show ownFin _ _ _ _ _ (T0.setTop (mkF m 0 #[.val (.ref a1)] []))
  refine ownVia (fun _ k => XS.aloadN X0.here hx rfl (hb hby d10_0) rfl rfl k) ?_
  show ownFin _ _ _ _ _ (T0.setTop (mkF m 1 #[.val (.ref a1)] [(.ref a1)]))
  obtain ⟨T83, X83, e83, st83⟩ := getF X0 hx hZ hown (host := "") (Or.inl (hw _ (List.mem_of_getElem? (i := 55) rfl))) Via.refl e0 F (g := (mkF m 1 #[.val (.ref a1)] [(.ref a1)])) rfl rfl (hb hby d10_1)
  refine ownVia st83 ?_
  show ownFin _ _ _ _ _ (T83.setTop (mkF m 4 #[.val (.ref a1)] [.null]))
  refine ownVia (fun _ k => XS.ifnullYes X83.here hx rfl (pc0 := 4) (pc' := 11) rfl (hb hby d10_4) rfl (by decide) (by decide) k) ?_
  show ownFin _ _ _ _ _ (T83.setTop (mkF m 11 #[.val (.ref a1)] []))
  refine ownVia (fun _ k => XS.iconst X83.here hx rfl (hb hby d10_11) k) ?_
  show ownFin _ _ _ _ _ (T83.setTop (mkF m 12 #[.val (.ref a1)] [(.int (0 : Int32))]))
  refine ownRetZ X83 hx hlk hret (hb hby d10_12) (by decide) (by decide) (Or.inl rfl) ?_
  show (Q_own_isr_n Z a1 h0 n0 ) (some (.int (0 : Int32))) T83.heap _
  rw [e83]
  exact ⟨rfl, N0, rfl⟩
theorem own_ef84 (m : MethodId) (a1 : Addr) : entryFrame m #[(.ref a1)] 1 = mkF m 0 #[.val (.ref a1)] [] := by first | (simp [entryFrame, mkF, argsToLocals, Value.category]; done) | rfl
def Q_own_isr_r (Z : State) (a1 : Addr) (h0 : Heap) (n0 : Nat) (b1 : Addr) : Option Value → Heap → List Loc → Prop := fun v h L => v = some (.int 1) ∧ Fr n0 L ∧ h = h0
set_option maxRecDepth 65536 in
set_option maxHeartbeats 40000000 in
theorem own_isr_r (l : Launch) (Z : State) (a0 : Array Value) (hw : ∀ d ∈ tables_1, d.before a0 Z = true)  (a1 : Addr) (h0 : Heap) (n0 : Nat) (b1 : Addr) (Z0 : n0 ≤ h0.size) (F : Fld Z h0 a1 "com/example/tillbridge/tillbridge/channel/Bill$Line" "outRefundNo" "Ljava/lang/String;" (.ref b1)) :
    ownMet l Z (⟨"com/example/tillbridge/tillbridge/channel/Bill$Line", "isRefund", "()Z"⟩ : MethodName) prog_7_method_2_code 1 (some .boolean) [] ({ frames := 0, cells := 0, slots := 0, locals := 0 } : Room) #[(.ref a1)] h0 (Q_own_isr_r Z a1 h0 n0 b1) := by
  refine ownBody (plainFor_of_name own_pn5) ?_
  intro p e s m below meth c T0 hx hby hml hret hlk hZ hown hnm X0 e0
  have N0 : Fr n0 [] := Fr.nil n0
  refine ownVia (fun _ k => castTop (own_ef84 m a1) k) ?_
  show ownFin _ _ _ _ _ (T0.setTop (mkF m 0 #[.val (.ref a1)] []))
  refine ownVia (fun _ k => XS.aloadN X0.here hx rfl (hb hby d10_0) rfl rfl k) ?_
  show ownFin _ _ _ _ _ (T0.setTop (mkF m 1 #[.val (.ref a1)] [(.ref a1)]))
  obtain ⟨T85, X85, e85, st85⟩ := getF X0 hx hZ hown (host := "") (Or.inl (hw _ (List.mem_of_getElem? (i := 55) rfl))) Via.refl e0 F (g := (mkF m 1 #[.val (.ref a1)] [(.ref a1)])) rfl rfl (hb hby d10_1)
  refine ownVia st85 ?_
  show ownFin _ _ _ _ _ (T85.setTop (mkF m 4 #[.val (.ref a1)] [(.ref b1)]))
  refine ownVia (fun _ k => XS.ifnullNo X85.here hx rfl (hb hby d10_4) rfl k) ?_
  show ownFin _ _ _ _ _ (T85.setTop (mkF m 7 #[.val (.ref a1)] []))
  refine ownVia (fun _ k => XS.iconst X85.here hx rfl (hb hby d10_7) k) ?_
  show ownFin _ _ _ _ _ (T85.setTop (mkF m 8 #[.val (.ref a1)] [(.int (1 : Int32))]))
  refine ownVia (fun _ k => XS.goto X85.here hx rfl (pc0 := 8) (pc' := 12) rfl (hb hby d10_8) (by decide) (by decide) k) ?_
  show ownFin _ _ _ _ _ (T85.setTop (mkF m 12 #[.val (.ref a1)] [(.int (1 : Int32))]))
  refine ownRetZ X85 hx hlk hret (hb hby d10_12) (by decide) (by decide) (Or.inr rfl) ?_
  show (Q_own_isr_r Z a1 h0 n0 b1) (some (.int (1 : Int32))) T85.heap _
  rw [e85]
  exact ⟨rfl, N0, rfl⟩
theorem d15_0 : decode jdk_52_method_21_code 0 = .ok (.iconst 0, 1) := by decide +kernel
theorem d15_1 : decode jdk_52_method_21_code 1 = .ok (.istore 5, 2) := by decide +kernel
theorem d15_3 : decode jdk_52_method_21_code 3 = .ok (.iload 5, 2) := by decide +kernel
theorem d15_5 : decode jdk_52_method_21_code 5 = .ok (.iload 4, 2) := by decide +kernel
theorem d15_7 : decode jdk_52_method_21_code 7 = .ok (.if_icmp .ge 37, 3) := by decide +kernel
theorem d15_10 : decode jdk_52_method_21_code 10 = .ok (.aload_n 0, 1) := by decide +kernel
theorem d15_11 : decode jdk_52_method_21_code 11 = .ok (.iload_n 1, 1) := by decide +kernel
theorem d15_12 : decode jdk_52_method_21_code 12 = .ok (.caload, 1) := by decide +kernel
theorem d15_13 : decode jdk_52_method_21_code 13 = .ok (.istore 6, 2) := by decide +kernel
theorem d15_15 : decode jdk_52_method_21_code 15 = .ok (.iload 6, 2) := by decide +kernel
theorem d15_17 : decode jdk_52_method_21_code 17 = .ok (.sipush 255, 3) := by decide +kernel
theorem d15_20 : decode jdk_52_method_21_code 20 = .ok (.if_icmp .le 6, 3) := by decide +kernel
theorem d15_23 : decode jdk_52_method_21_code 23 = .ok (.iload 5, 2) := by decide +kernel
theorem d15_25 : decode jdk_52_method_21_code 25 = .ok (.ireturn, 1) := by decide +kernel
theorem d15_26 : decode jdk_52_method_21_code 26 = .ok (.aload_n 2, 1) := by decide +kernel
theorem d15_27 : decode jdk_52_method_21_code 27 = .ok (.iload_n 3, 1) := by decide +kernel
theorem d15_28 : decode jdk_52_method_21_code 28 = .ok (.iload 6, 2) := by decide +kernel
theorem d15_30 : decode jdk_52_method_21_code 30 = .ok (.i2b, 1) := by decide +kernel
theorem d15_31 : decode jdk_52_method_21_code 31 = .ok (.bastore, 1) := by decide +kernel
theorem d15_32 : decode jdk_52_method_21_code 32 = .ok (.iinc 1 1, 3) := by decide +kernel
theorem d15_35 : decode jdk_52_method_21_code 35 = .ok (.iinc 3 1, 3) := by decide +kernel
theorem d15_38 : decode jdk_52_method_21_code 38 = .ok (.iinc 5 1, 3) := by decide +kernel
theorem d15_41 : decode jdk_52_method_21_code 41 = .ok (.goto (-38), 3) := by decide +kernel
theorem d15_44 : decode jdk_52_method_21_code 44 = .ok (.iload 4, 2) := by decide +kernel
theorem d15_46 : decode jdk_52_method_21_code 46 = .ok (.ireturn, 1) := by decide +kernel
theorem own_pn6 : plainName "java/lang/StringUTF16" = true := by first | (simp [plainName, overriddenIn]; done) | decide +kernel
theorem own_ef86 (m : MethodId) (a1 : Addr) (a2 : Addr) (p3 : Int32) : entryFrame m #[(.ref a1), (.int (0 : Int32)), (.ref a2), (.int (0 : Int32)), (.int p3)] 7 = mkF m 0 #[.val (.ref a1), .val (.int (0 : Int32)), .val (.ref a2), .val (.int (0 : Int32)), .val (.int p3), .unset, .unset] [] := by first | (simp [entryFrame, mkF, argsToLocals, Value.category]; done) | rfl
def Q_own_cmp2 (Z : State) (a1 : Addr) (a2 : Addr) (p3 : Int32) (h0 : Heap) (n0 : Nat) (k_a1 k_a2 : ClassId) (z : Int32) (cs : List Int32) (vs0 : List Value) : Option Value → Heap → List Loc → Prop := fun v h L => v = some (.int p3) ∧ Fr n0 L ∧ Keep h0 h [a2] ∧ ∃ vs : List Value, Arv Z h a2 k_a2 .byte p3 vs (.int (0 : Int32))
set_option maxRecDepth 65536 in
set_option maxHeartbeats 40000000 in
theorem own_cmp2 (l : Launch) (Z : State) (a0 : Array Value) (hw : ∀ d ∈ tables_1, d.before a0 Z = true)  (a1 : Addr) (a2 : Addr) (p3 : Int32) (h0 : Heap) (n0 : Nat) (k_a1 k_a2 : ClassId) (z : Int32) (cs : List Int32) (vs0 : List Value) (Z0 : n0 ≤ h0.size) (A_a1 : Arv Z h0 a1 k_a1 .char z (cs.map Value.int) (.int (0 : Int32))) (hz : z.toInt = (cs.length : Int)) (hl3 : cs.length ≤ 3) (hcs : ∀ x ∈ cs, 0 ≤ x.toInt ∧ x.toInt ≤ 255) (A_a2 : Arv Z h0 a2 k_a2 .byte p3 vs0 (.int (0 : Int32))) (hv0 : vs0.length = cs.length) (hp3 : p3.toInt = (cs.length : Int)) (ge_a2 : n0 ≤ a2) (ne_a1_a2 : a1 ≠ a2) :
    ownMet l Z (⟨"java/lang/StringUTF16", "compress", "([CI[BII)I"⟩ : MethodName) jdk_52_method_21_code 7 (some .int) [] ({ frames := 0, cells := 0, slots := 0, locals := 0 } : Room) #[(.ref a1), (.int (0 : Int32)), (.ref a2), (.int (0 : Int32)), (.int p3)] h0 (Q_own_cmp2 Z a1 a2 p3 h0 n0 k_a1 k_a2 z cs vs0) := by
  refine ownBody (plainFor_of_name own_pn6) ?_
  intro p e s m below meth c T0 hx hby hml hret hlk hZ hown hnm X0 e0
  have N0 : Fr n0 [] := Fr.nil n0
  refine ownVia (fun _ k => castTop (own_ef86 m a1 a2 p3) k) ?_
  show ownFin _ _ _ _ _ (T0.setTop (mkF m 0 #[.val (.ref a1), .val (.int (0 : Int32)), .val (.ref a2), .val (.int (0 : Int32)), .val (.int p3), .unset, .unset] []))
  have K0 : Keep h0 h0 [a2] := Keep.refl _ _
  refine ownVia (fun _ k => XS.iconst X0.here hx rfl (hb hby d15_0) k) ?_
  show ownFin _ _ _ _ _ (T0.setTop (mkF m 1 #[.val (.ref a1), .val (.int (0 : Int32)), .val (.ref a2), .val (.int (0 : Int32)), .val (.int p3), .unset, .unset] [(.int (0 : Int32))]))
  refine ownVia (fun _ k => XS.istore X0.here hx rfl (hb hby d15_1) rfl (l' := #[.val (.ref a1), .val (.int (0 : Int32)), .val (.ref a2), .val (.int (0 : Int32)), .val (.int p3), .val (.int (0 : Int32)), .unset]) rfl k) ?_
  show ownFin _ _ _ _ _ (T0.setTop (mkF m 3 #[.val (.ref a1), .val (.int (0 : Int32)), .val (.ref a2), .val (.int (0 : Int32)), .val (.int p3), .val (.int (0 : Int32)), .unset] []))
  have loop : ∀ (n i : Nat) (iv : Int32) (s6 : Slot) (T : State) (hh : Heap) (lo : List Loc) (vs : List Value), Stand p l e ({ frames := 0, cells := 0, slots := 0, locals := 0 } : Room) s m #[(.ref a1), (.int (0 : Int32)), (.ref a2), (.int (0 : Int32)), (.int p3)] below meth c T lo 0 0 → T.heap = hh → Fr n0 lo → One s6 → iv.toInt = (i : Int) → i + n = cs.length → vs.length = cs.length → Arv Z hh a1 k_a1 .char z (cs.map Value.int) (.int (0 : Int32)) → Arv Z hh a2 k_a2 .byte p3 vs (.int (0 : Int32)) → Keep h0 hh [a2] → n0 ≤ hh.size → ownFin p e below (ownFE s ({ frames := 0, cells := 0, slots := 0, locals := 0 } : Room).cells ({ frames := 0, cells := 0, slots := 0, locals := 0 } : Room).slots) (Q_own_cmp2 Z a1 a2 p3 h0 n0 k_a1 k_a2 z cs vs0) (T.setTop (mkF m 3 #[.val (.ref a1), .val (.int iv), .val (.ref a2), .val (.int iv), .val (.int p3), .val (.int iv), s6] [])) := by
    intro n
    induction n with
    | zero =>
      intro i iv s6 T hh lo vs X eT NL hs6 hiv hin hvl A_a1 A_a2 K0 Z0
      show ownFin _ _ _ _ _ (T.setTop (mkF m 3 #[.val (.ref a1), .val (.int iv), .val (.ref a2), .val (.int iv), .val (.int p3), .val (.int iv), s6] []))
      refine ownVia (fun _ k => XS.iload X.here hx rfl (hb hby d15_3) rfl k) ?_
      show ownFin _ _ _ _ _ (T.setTop (mkF m 5 #[.val (.ref a1), .val (.int iv), .val (.ref a2), .val (.int iv), .val (.int p3), .val (.int iv), s6] [(.int iv)]))
      refine ownVia (fun _ k => XS.iload X.here hx rfl (hb hby d15_5) rfl k) ?_
      show ownFin _ _ _ _ _ (T.setTop (mkF m 7 #[.val (.ref a1), .val (.int iv), .val (.ref a2), .val (.int iv), .val (.int p3), .val (.int iv), s6] [(.int p3), (.int iv)]))
      refine ownVia (fun _ k => XS.icmpYes X.here hx rfl (pc0 := 7) (pc' := 44) rfl (hb hby d15_7) rfl (flt (own_nlt hiv hp3 (by omega))).2.1 (by decide) (by decide) k) ?_
      show ownFin _ _ _ _ _ (T.setTop (mkF m 44 #[.val (.ref a1), .val (.int iv), .val (.ref a2), .val (.int iv), .val (.int p3), .val (.int iv), s6] []))
      refine ownVia (fun _ k => XS.iload X.here hx rfl (hb hby d15_44) rfl k) ?_
      show ownFin _ _ _ _ _ (T.setTop (mkF m 46 #[.val (.ref a1), .val (.int iv), .val (.ref a2), .val (.int iv), .val (.int p3), .val (.int iv), s6] [(.int p3)]))
      refine ownRetI X hx hlk hret (hb hby d15_46) (by decide) (by decide) ?_
      show (Q_own_cmp2 Z a1 a2 p3 h0 n0 k_a1 k_a2 z cs vs0) (some (.int p3)) T.heap _
      rw [eT]
      exact ⟨rfl, NL, K0, vs, A_a2⟩
    | succ n ih =>
      intro i iv s6 T hh lo vs X eT NL hs6 hiv hin hvl A_a1 A_a2 K0 Z0
      show ownFin _ _ _ _ _ (T.setTop (mkF m 3 #[.val (.ref a1), .val (.int iv), .val (.ref a2), .val (.int iv), .val (.int p3), .val (.int iv), s6] []))
      refine ownVia (fun _ k => XS.iload X.here hx rfl (hb hby d15_3) rfl k) ?_
      show ownFin _ _ _ _ _ (T.setTop (mkF m 5 #[.val (.ref a1), .val (.int iv), .val (.ref a2), .val (.int iv), .val (.int p3), .val (.int iv), s6] [(.int iv)]))
      refine ownVia (fun _ k => XS.iload X.here hx rfl (hb hby d15_5) rfl k) ?_
      show ownFin _ _ _ _ _ (T.setTop (mkF m 7 #[.val (.ref a1), .val (.int iv), .val (.ref a2), .val (.int iv), .val (.int p3), .val (.int iv), s6] [(.int p3), (.int iv)]))
      refine ownVia (fun _ k => XS.icmpNo X.here hx rfl (hb hby d15_7) rfl (tlt ((own_lti hiv hp3).mpr (by omega))).2.1 k) ?_
      show ownFin _ _ _ _ _ (T.setTop (mkF m 10 #[.val (.ref a1), .val (.int iv), .val (.ref a2), .val (.int iv), .val (.int p3), .val (.int iv), s6] []))
      refine ownVia (fun _ k => XS.aloadN X.here hx rfl (hb hby d15_10) rfl rfl k) ?_
      show ownFin _ _ _ _ _ (T.setTop (mkF m 11 #[.val (.ref a1), .val (.int iv), .val (.ref a2), .val (.int iv), .val (.int p3), .val (.int iv), s6] [(.ref a1)]))
      refine ownVia (fun _ k => XS.iloadN X.here hx rfl (hb hby d15_11) rfl k) ?_
      show ownFin _ _ _ _ _ (T.setTop (mkF m 12 #[.val (.ref a1), .val (.int iv), .val (.ref a2), .val (.int iv), .val (.int p3), .val (.int iv), s6] [(.int iv), (.ref a1)]))
      have hch := own_all3 hcs (i := i) (by omega)
      refine ownCaload X hx hZ eT A_a1 (own_idx hz (by omega) (by omega)) (v := (.int (cs.getD i 0))) (by rw [own_clamp hiv]; exact own_getD_map Value.int 0 cs i) (hb hby d15_12) ?_
      show ownFin _ _ _ _ _ (T.setTop (mkF m 13 #[.val (.ref a1), .val (.int iv), .val (.ref a2), .val (.int iv), .val (.int p3), .val (.int iv), s6] [(.int (cs.getD i 0))]))
      refine ownVia (fun _ k => XS.istoreS X.here hx rfl (hb hby d15_13) rfl rfl hs6 k) ?_
      show ownFin _ _ _ _ _ (T.setTop (mkF m 15 #[.val (.ref a1), .val (.int iv), .val (.ref a2), .val (.int iv), .val (.int p3), .val (.int iv), .val (.int (cs.getD i 0))] []))
      refine ownVia (fun _ k => XS.iload X.here hx rfl (hb hby d15_15) rfl k) ?_
      show ownFin _ _ _ _ _ (T.setTop (mkF m 17 #[.val (.ref a1), .val (.int iv), .val (.ref a2), .val (.int iv), .val (.int p3), .val (.int iv), .val (.int (cs.getD i 0))] [(.int (cs.getD i 0))]))
      refine ownVia (fun _ k => XS.sipush X.here hx rfl (hb hby d15_17) k) ?_
      show ownFin _ _ _ _ _ (T.setTop (mkF m 20 #[.val (.ref a1), .val (.int iv), .val (.ref a2), .val (.int iv), .val (.int p3), .val (.int iv), .val (.int (cs.getD i 0))] [(.int (255 : Int32)), (.int (cs.getD i 0))]))
      refine ownVia (fun _ k => XS.icmpYes X.here hx rfl (pc0 := 20) (pc' := 26) rfl (hb hby d15_20) rfl (flt (own_nlt (by decide : (255 : Int32).toInt = 255) rfl hch.2)).2.2.2 (by decide) (by decide) k) ?_
      show ownFin _ _ _ _ _ (T.setTop (mkF m 26 #[.val (.ref a1), .val (.int iv), .val (.ref a2), .val (.int iv), .val (.int p3), .val (.int iv), .val (.int (cs.getD i 0))] []))
      refine ownVia (fun _ k => XS.aloadN X.here hx rfl (hb hby d15_26) rfl rfl k) ?_
      show ownFin _ _ _ _ _ (T.setTop (mkF m 27 #[.val (.ref a1), .val (.int iv), .val (.ref a2), .val (.int iv), .val (.int p3), .val (.int iv), .val (.int (cs.getD i 0))] [(.ref a2)]))
      refine ownVia (fun _ k => XS.iloadN X.here hx rfl (hb hby d15_27) rfl k) ?_
      show ownFin _ _ _ _ _ (T.setTop (mkF m 28 #[.val (.ref a1), .val (.int iv), .val (.ref a2), .val (.int iv), .val (.int p3), .val (.int iv), .val (.int (cs.getD i 0))] [(.int iv), (.ref a2)]))
      refine ownVia (fun _ k => XS.iload X.here hx rfl (hb hby d15_28) rfl k) ?_
      show ownFin _ _ _ _ _ (T.setTop (mkF m 30 #[.val (.ref a1), .val (.int iv), .val (.ref a2), .val (.int iv), .val (.int p3), .val (.int iv), .val (.int (cs.getD i 0))] [(.int (cs.getD i 0)), (.int iv), (.ref a2)]))
      refine ownVia (fun _ k => XS.i2b X.here hx rfl (hb hby d15_30) rfl k) ?_
      show ownFin _ _ _ _ _ (T.setTop (mkF m 31 #[.val (.ref a1), .val (.int iv), .val (.ref a2), .val (.int iv), .val (.int p3), .val (.int iv), .val (.int (cs.getD i 0))] [(.int ((cs.getD i 0).toInt8.toInt32)), (.int iv), (.ref a2)]))
      have k_a2_ := k_a2
      refine ownBastore X hx hZ eT A_a2 (own_idx hp3 (by omega) (by omega)) (i) (own_clamp hiv) (by omega) NL ge_a2 (hb hby d15_31) ?_
      intro T87 h87 L87 X87 e87 N87 W87 A_a2
      have A_a1 := A_a1.other W87 ne_a1_a2
      have K0 := K0.wr W87 (Or.inl (List.mem_of_getElem? (i := 0) rfl))
      have Z0 := own_szW Z0 W87
      have A_a2 : Arv Z h87 a2 k_a2 .byte p3 (vs.set i (.int (nar .byte ((cs.getD i 0).toInt8.toInt32)))) (.int (0 : Int32)) := A_a2
      show ownFin _ _ _ _ _ (T87.setTop (mkF m 32 #[.val (.ref a1), .val (.int iv), .val (.ref a2), .val (.int iv), .val (.int p3), .val (.int iv), .val (.int (cs.getD i 0))] []))
      refine ownVia (fun _ k => XS.iinc X87.here hx rfl (hb hby d15_32) rfl (l' := #[.val (.ref a1), .val (.int (iv + (1 : Int32))), .val (.ref a2), .val (.int iv), .val (.int p3), .val (.int iv), .val (.int (cs.getD i 0))]) rfl k) ?_
      show ownFin _ _ _ _ _ (T87.setTop (mkF m 35 #[.val (.ref a1), .val (.int (iv + (1 : Int32))), .val (.ref a2), .val (.int iv), .val (.int p3), .val (.int iv), .val (.int (cs.getD i 0))] []))
      refine ownVia (fun _ k => XS.iinc X87.here hx rfl (hb hby d15_35) rfl (l' := #[.val (.ref a1), .val (.int (iv + (1 : Int32))), .val (.ref a2), .val (.int (iv + (1 : Int32))), .val (.int p3), .val (.int iv), .val (.int (cs.getD i 0))]) rfl k) ?_
      show ownFin _ _ _ _ _ (T87.setTop (mkF m 38 #[.val (.ref a1), .val (.int (iv + (1 : Int32))), .val (.ref a2), .val (.int (iv + (1 : Int32))), .val (.int p3), .val (.int iv), .val (.int (cs.getD i 0))] []))
      refine ownVia (fun _ k => XS.iinc X87.here hx rfl (hb hby d15_38) rfl (l' := #[.val (.ref a1), .val (.int (iv + (1 : Int32))), .val (.ref a2), .val (.int (iv + (1 : Int32))), .val (.int p3), .val (.int (iv + (1 : Int32))), .val (.int (cs.getD i 0))]) rfl k) ?_
      show ownFin _ _ _ _ _ (T87.setTop (mkF m 41 #[.val (.ref a1), .val (.int (iv + (1 : Int32))), .val (.ref a2), .val (.int (iv + (1 : Int32))), .val (.int p3), .val (.int (iv + (1 : Int32))), .val (.int (cs.getD i 0))] []))
      refine ownVia (fun _ k => XS.goto X87.here hx rfl (pc0 := 41) (pc' := 3) rfl (hb hby d15_41) (by decide) (by decide) k) ?_
      show ownFin _ _ _ _ _ (T87.setTop (mkF m 3 #[.val (.ref a1), .val (.int (iv + (1 : Int32))), .val (.ref a2), .val (.int (iv + (1 : Int32))), .val (.int p3), .val (.int (iv + (1 : Int32))), .val (.int (cs.getD i 0))] []))
      exact ih (i + 1) (iv + (1 : Int32)) _ _ _ _ _ X87 e87 N87 (One.val rfl) (own_add hiv (by decide : (1 : Int32).toInt = ((1 : Nat) : Int)) (by omega)) (by omega) (by rw [List.length_set]; exact hvl) A_a1 A_a2 K0 Z0
  exact loop cs.length 0 0 _ _ _ _ _ X0 e0 N0 One.u (by decide) (by omega) hv0 A_a1 A_a2 K0 Z0
theorem d14_0 : decode jdk_52_method_16_code 0 = .ok (.iload_n 2, 1) := by decide +kernel
theorem d14_1 : decode jdk_52_method_16_code 1 = .ok (.newarray .byte, 2) := by decide +kernel
theorem d14_3 : decode jdk_52_method_16_code 3 = .ok (.astore_n 3, 1) := by decide +kernel
theorem d14_4 : decode jdk_52_method_16_code 4 = .ok (.aload_n 0, 1) := by decide +kernel
theorem d14_5 : decode jdk_52_method_16_code 5 = .ok (.iload_n 1, 1) := by decide +kernel
theorem d14_6 : decode jdk_52_method_16_code 6 = .ok (.aload_n 3, 1) := by decide +kernel
theorem d14_7 : decode jdk_52_method_16_code 7 = .ok (.iconst 0, 1) := by decide +kernel
theorem d14_8 : decode jdk_52_method_16_code 8 = .ok (.iload_n 2, 1) := by decide +kernel
theorem d14_9 : decode jdk_52_method_16_code 9 = .ok (.invokestatic 115, 3) := by decide +kernel
theorem d14_12 : decode jdk_52_method_16_code 12 = .ok (.istore 4, 2) := by decide +kernel
theorem d14_14 : decode jdk_52_method_16_code 14 = .ok (.iload 4, 2) := by decide +kernel
theorem d14_16 : decode jdk_52_method_16_code 16 = .ok (.iload_n 2, 1) := by decide +kernel
theorem d14_17 : decode jdk_52_method_16_code 17 = .ok (.if_icmp .eq 40, 3) := by decide +kernel
theorem d14_20 : decode jdk_52_method_16_code 20 = .ok (.aload_n 0, 1) := by decide +kernel
theorem d14_21 : decode jdk_52_method_16_code 21 = .ok (.iload_n 1, 1) := by decide +kernel
theorem d14_22 : decode jdk_52_method_16_code 22 = .ok (.iload_n 2, 1) := by decide +kernel
theorem d14_23 : decode jdk_52_method_16_code 23 = .ok (.invokestatic 119, 3) := by decide +kernel
theorem d14_26 : decode jdk_52_method_16_code 26 = .ok (.astore 5, 2) := by decide +kernel
theorem d14_28 : decode jdk_52_method_16_code 28 = .ok (.aload 5, 2) := by decide +kernel
theorem d14_30 : decode jdk_52_method_16_code 30 = .ok (.iload 4, 2) := by decide +kernel
theorem d14_32 : decode jdk_52_method_16_code 32 = .ok (.invokestatic 71, 3) := by decide +kernel
theorem d14_35 : decode jdk_52_method_16_code 35 = .ok (.sipush 255, 3) := by decide +kernel
theorem d14_38 : decode jdk_52_method_16_code 38 = .ok (.if_icmp .gt 16, 3) := by decide +kernel
theorem d14_41 : decode jdk_52_method_16_code 41 = .ok (.aload 5, 2) := by decide +kernel
theorem d14_43 : decode jdk_52_method_16_code 43 = .ok (.iconst 0, 1) := by decide +kernel
theorem d14_44 : decode jdk_52_method_16_code 44 = .ok (.aload_n 3, 1) := by decide +kernel
theorem d14_45 : decode jdk_52_method_16_code 45 = .ok (.iconst 0, 1) := by decide +kernel
theorem d14_46 : decode jdk_52_method_16_code 46 = .ok (.iload_n 2, 1) := by decide +kernel
theorem d14_47 : decode jdk_52_method_16_code 47 = .ok (.invokestatic 123, 3) := by decide +kernel
theorem d14_50 : decode jdk_52_method_16_code 50 = .ok (.iload_n 2, 1) := by decide +kernel
theorem d14_51 : decode jdk_52_method_16_code 51 = .ok (.if_icmp .eq 6, 3) := by decide +kernel
theorem d14_54 : decode jdk_52_method_16_code 54 = .ok (.aload 5, 2) := by decide +kernel
theorem d14_56 : decode jdk_52_method_16_code 56 = .ok (.areturn, 1) := by decide +kernel
theorem d14_57 : decode jdk_52_method_16_code 57 = .ok (.aload_n 3, 1) := by decide +kernel
theorem d14_58 : decode jdk_52_method_16_code 58 = .ok (.areturn, 1) := by decide +kernel
theorem own_ef88 (m : MethodId) (a1 : Addr) (p2 : Int32) : entryFrame m #[(.ref a1), (.int (0 : Int32)), (.int p2)] 6 = mkF m 0 #[.val (.ref a1), .val (.int (0 : Int32)), .val (.int p2), .unset, .unset, .unset] [] := by first | (simp [entryFrame, mkF, argsToLocals, Value.category]; done) | rfl
def Q_own_cmp1 (Z : State) (a1 : Addr) (p2 : Int32) (h0 : Heap) (n0 : Nat) (k_a1 : ClassId) (z : Int32) (cs : List Int32) : Option Value → Heap → List Loc → Prop := fun v h L => ∃ b kb, ∃ vs : List Value, v = some (.ref b) ∧ Fr n0 L ∧ Keep h0 h [] ∧ h0.size ≤ b ∧ Arv Z h b kb .byte p2 vs (.int (0 : Int32))
theorem own_pd5 : parseMethodDescriptor "([CI[BII)I" = some ⟨[(.array .char), .int, (.array .byte), .int, .int], some .int⟩ := by decide +kernel
set_option maxRecDepth 65536 in
set_option maxHeartbeats 40000000 in
theorem own_cmp1 (l : Launch) (Z : State) (a0 : Array Value) (hw : ∀ d ∈ tables_1, d.before a0 Z = true)  (a1 : Addr) (p2 : Int32) (h0 : Heap) (n0 : Nat) (k_a1 : ClassId) (z : Int32) (cs : List Int32) (Z0 : n0 ≤ h0.size) (A_a1 : Arv Z h0 a1 k_a1 .char z (cs.map Value.int) (.int (0 : Int32))) (hz : z.toInt = (cs.length : Int)) (hl3 : cs.length ≤ 3) (hcs : ∀ x ∈ cs, 0 ≤ x.toInt ∧ x.toInt ≤ 255) (hp2 : p2.toInt = (cs.length : Int)) :
    ownMet l Z (⟨"java/lang/StringUTF16", "compress", "([CII)[B"⟩ : MethodName) jdk_52_method_16_code 6 (some (.array .byte)) [] ({ frames := 1, cells := 1, slots := 3, locals := 20 } : Room) #[(.ref a1), (.int (0 : Int32)), (.int p2)] h0 (Q_own_cmp1 Z a1 p2 h0 n0 k_a1 z cs) := by
  refine ownBody (plainFor_of_name own_pn6) ?_
  intro p e s m below meth c T0 hx hby hml hret hlk hZ hown hnm X0 e0
  have N0 : Fr n0 [] := Fr.nil n0
  refine ownVia (fun _ k => castTop (own_ef88 m a1 p2) k) ?_
  show ownFin _ _ _ _ _ (T0.setTop (mkF m 0 #[.val (.ref a1), .val (.int (0 : Int32)), .val (.int p2), .unset, .unset, .unset] []))
  have K0 : Keep h0 h0 [] := Keep.refl _ _
  refine ownVia (fun _ k => XS.iloadN X0.here hx rfl (hb hby d14_0) rfl k) ?_
  show ownFin _ _ _ _ _ (T0.setTop (mkF m 1 #[.val (.ref a1), .val (.int (0 : Int32)), .val (.int p2), .unset, .unset, .unset] [(.int p2)]))
  refine ownNewP X0 hx hZ (hw _ (List.mem_of_getElem? (i := 14) rfl)) e0 "[B" (by decide) (own_nneg hp2) (cs.length) (own_clamp hp2) (3) hl3 (by decide) (by decide) (by decide) (hb hby d14_1) ?_
  intro T89 h89 k_b1 b1 g89 X89 e89 E89 A_b1 E_b1
  have ne_a1_b1 : a1 ≠ b1 := Nat.ne_of_lt (Nat.lt_of_lt_of_le A_a1.lt (Nat.le_of_eq g89.symm))
  have ge_b1 : n0 ≤ b1 := Nat.le_trans Z0 (Nat.le_of_eq g89.symm)
  have sz_b1 : h0.size ≤ b1 := Nat.le_trans K0.1 (Nat.le_of_eq g89.symm)
  have A_a1 := A_a1.ext E89
  have K0 := K0.ext E89
  have Z0 := own_sz Z0 E89
  have A_b1 : Arv Z h89 b1 k_b1 .byte p2 (List.replicate cs.length (.int (0 : Int32))) (.int (0 : Int32)) := A_b1
  show ownFin _ _ _ _ _ (T89.setTop (mkF m 3 #[.val (.ref a1), .val (.int (0 : Int32)), .val (.int p2), .unset, .unset, .unset] [(.ref b1)]))
  refine ownVia (fun _ k => XS.astoreN X89.here hx rfl (hb hby d14_3) rfl rfl (l' := #[.val (.ref a1), .val (.int (0 : Int32)), .val (.int p2), .val (.ref b1), .unset, .unset]) rfl k) ?_
  show ownFin _ _ _ _ _ (T89.setTop (mkF m 4 #[.val (.ref a1), .val (.int (0 : Int32)), .val (.int p2), .val (.ref b1), .unset, .unset] []))
  refine ownVia (fun _ k => XS.aloadN X89.here hx rfl (hb hby d14_4) rfl rfl k) ?_
  show ownFin _ _ _ _ _ (T89.setTop (mkF m 5 #[.val (.ref a1), .val (.int (0 : Int32)), .val (.int p2), .val (.ref b1), .unset, .unset] [(.ref a1)]))
  refine ownVia (fun _ k => XS.iloadN X89.here hx rfl (hb hby d14_5) rfl k) ?_
  show ownFin _ _ _ _ _ (T89.setTop (mkF m 6 #[.val (.ref a1), .val (.int (0 : Int32)), .val (.int p2), .val (.ref b1), .unset, .unset] [(.int (0 : Int32)), (.ref a1)]))
  refine ownVia (fun _ k => XS.aloadN X89.here hx rfl (hb hby d14_6) rfl rfl k) ?_
  show ownFin _ _ _ _ _ (T89.setTop (mkF m 7 #[.val (.ref a1), .val (.int (0 : Int32)), .val (.int p2), .val (.ref b1), .unset, .unset] [(.ref b1), (.int (0 : Int32)), (.ref a1)]))
  refine ownVia (fun _ k => XS.iconst X89.here hx rfl (hb hby d14_7) k) ?_
  show ownFin _ _ _ _ _ (T89.setTop (mkF m 8 #[.val (.ref a1), .val (.int (0 : Int32)), .val (.int p2), .val (.ref b1), .unset, .unset] [(.int (0 : Int32)), (.ref b1), (.int (0 : Int32)), (.ref a1)]))
  refine ownVia (fun _ k => XS.iloadN X89.here hx rfl (hb hby d14_8) rfl k) ?_
  show ownFin _ _ _ _ _ (T89.setTop (mkF m 9 #[.val (.ref a1), .val (.int (0 : Int32)), .val (.int p2), .val (.ref b1), .unset, .unset] [(.int p2), (.int (0 : Int32)), (.ref b1), (.int (0 : Int32)), (.ref a1)]))
  refine ownCallS X89 hx hZ hown (hw _ (List.mem_of_getElem? (i := 89) rfl)) (hw _ (List.mem_of_getElem? (i := 90) rfl)) (hw _ (List.mem_of_getElem? (i := 87) rfl)) (hw _ (List.mem_of_getElem? (i := 91) rfl)) (by decide) e89 (own_cmp2 l Z a0 hw a1 b1 p2 h89 n0 k_a1 k_b1 z cs (List.replicate cs.length (.int (0 : Int32))) Z0 A_a1 hz hl3 hcs A_b1 (by simp) hp2 ge_b1 ne_a1_b1) (by rw [hml]; rfl) [(.ref a1), (.int (0 : Int32)), (.ref b1), (.int (0 : Int32)), (.int p2)] [] (lenOf own_pd5 rfl) rfl rfl 0 rfl (hb hby d14_9) (by decide) (by decide) (by decide) (by decide) ?_
  intro v90 T90 L90 X90 hq90
  obtain ⟨rfl, N90q, K90, vs, A_b1⟩ := hq90
  have A_a1 := A_a1.keep K90 (ninS ne_a1_b1 nin0)
  have E_b1 := E_b1.keep K90
  have K0 := K0.trans K90 (allS (Or.inr sz_b1) all0)
  have Z0 := Nat.le_trans Z0 K90.1
  have N90 := Fr.app N0 N90q
  show ownFin _ _ _ _ _ (T90.setTop (mkF m 12 #[.val (.ref a1), .val (.int (0 : Int32)), .val (.int p2), .val (.ref b1), .unset, .unset] [(.int p2)]))
  refine ownVia (fun _ k => XS.istore X90.here hx rfl (hb hby d14_12) rfl (l' := #[.val (.ref a1), .val (.int (0 : Int32)), .val (.int p2), .val (.ref b1), .val (.int p2), .unset]) rfl k) ?_
  show ownFin _ _ _ _ _ (T90.setTop (mkF m 14 #[.val (.ref a1), .val (.int (0 : Int32)), .val (.int p2), .val (.ref b1), .val (.int p2), .unset] []))
  refine ownVia (fun _ k => XS.iload X90.here hx rfl (hb hby d14_14) rfl k) ?_
  show ownFin _ _ _ _ _ (T90.setTop (mkF m 16 #[.val (.ref a1), .val (.int (0 : Int32)), .val (.int p2), .val (.ref b1), .val (.int p2), .unset] [(.int p2)]))
  refine ownVia (fun _ k => XS.iloadN X90.here hx rfl (hb hby d14_16) rfl k) ?_
  show ownFin _ _ _ _ _ (T90.setTop (mkF m 17 #[.val (.ref a1), .val (.int (0 : Int32)), .val (.int p2), .val (.ref b1), .val (.int p2), .unset] [(.int p2), (.int p2)]))
  refine ownVia (fun _ k => XS.icmpYes X90.here hx rfl (pc0 := 17) (pc' := 57) rfl (hb hby d14_17) rfl (teq rfl).1 (by decide) (by decide) k) ?_
  show ownFin _ _ _ _ _ (T90.setTop (mkF m 57 #[.val (.ref a1), .val (.int (0 : Int32)), .val (.int p2), .val (.ref b1), .val (.int p2), .unset] []))
  refine ownVia (fun _ k => XS.aloadN X90.here hx rfl (hb hby d14_57) rfl rfl k) ?_
  show ownFin _ _ _ _ _ (T90.setTop (mkF m 58 #[.val (.ref a1), .val (.int (0 : Int32)), .val (.int p2), .val (.ref b1), .val (.int p2), .unset] [(.ref b1)]))
  refine ownRetA X90 hx hlk (ty := (.array .byte)) hret rfl (hb hby d14_58) (by decide) (by decide) ?_
  show (Q_own_cmp1 Z a1 p2 h0 n0 k_a1 z cs) (some (.ref b1)) T90.heap _
  exact ⟨b1, k_b1, vs, rfl, N90, K0, sz_b1, A_b1⟩
theorem d16_0 : decode jdk_52_method_15_code 0 = .ok (.iload_n 1, 1) := by decide +kernel
theorem d16_1 : decode jdk_52_method_15_code 1 = .ok (.aload_n 0, 1) := by decide +kernel
theorem d16_2 : decode jdk_52_method_15_code 2 = .ok (.arraylength, 1) := by decide +kernel
theorem d16_3 : decode jdk_52_method_15_code 3 = .ok (.isub, 1) := by decide +kernel
theorem d16_4 : decode jdk_52_method_15_code 4 = .ok (.bipush 31, 2) := by decide +kernel
theorem d16_6 : decode jdk_52_method_15_code 6 = .ok (.iushr, 1) := by decide +kernel
theorem d16_7 : decode jdk_52_method_15_code 7 = .ok (.i2b, 1) := by decide +kernel
theorem d16_8 : decode jdk_52_method_15_code 8 = .ok (.ireturn, 1) := by decide +kernel
theorem own_ef91 (m : MethodId) (a1 : Addr) (p1 : Int32) : entryFrame m #[(.ref a1), (.int p1)] 2 = mkF m 0 #[.val (.ref a1), .val (.int p1)] [] := by first | (simp [entryFrame, mkF, argsToLocals, Value.category]; done) | rfl
def Q_own_cfa (Z : State) (a1 : Addr) (p1 : Int32) (h0 : Heap) (n0 : Nat) (k_a1 : ClassId) (vs : List Value) : Option Value → Heap → List Loc → Prop := fun v h L => v = some (.int 0) ∧ Fr n0 L ∧ h = h0
set_option maxRecDepth 65536 in
set_option maxHeartbeats 40000000 in
theorem own_cfa (l : Launch) (Z : State) (a0 : Array Value) (hw : ∀ d ∈ tables_1, d.before a0 Z = true)  (a1 : Addr) (p1 : Int32) (h0 : Heap) (n0 : Nat) (k_a1 : ClassId) (vs : List Value) (Z0 : n0 ≤ h0.size) (A_a1 : Arv Z h0 a1 k_a1 .byte p1 vs (.int (0 : Int32))) :
    ownMet l Z (⟨"java/lang/StringUTF16", "coderFromArrayLen", "([BI)B"⟩ : MethodName) jdk_52_method_15_code 2 (some .byte) [] ({ frames := 0, cells := 0, slots := 0, locals := 0 } : Room) #[(.ref a1), (.int p1)] h0 (Q_own_cfa Z a1 p1 h0 n0 k_a1 vs) := by
  refine ownBody (plainFor_of_name own_pn6) ?_
  intro p e s m below meth c T0 hx hby hml hret hlk hZ hown hnm X0 e0
  have N0 : Fr n0 [] := Fr.nil n0
  refine ownVia (fun _ k => castTop (own_ef91 m a1 p1) k) ?_
  show ownFin _ _ _ _ _ (T0.setTop (mkF m 0 #[.val (.ref a1), .val (.int p1)] []))
  refine ownVia (fun _ k => XS.iloadN X0.here hx rfl (hb hby d16_0) rfl k) ?_
  show ownFin _ _ _ _ _ (T0.setTop (mkF m 1 #[.val (.ref a1), .val (.int p1)] [(.int p1)]))
  refine ownVia (fun _ k => XS.aloadN X0.here hx rfl (hb hby d16_1) rfl rfl k) ?_
  show ownFin _ _ _ _ _ (T0.setTop (mkF m 2 #[.val (.ref a1), .val (.int p1)] [(.ref a1), (.int p1)]))
  refine ownLen X0 hx hZ e0 A_a1 (hb hby d16_2) ?_
  show ownFin _ _ _ _ _ (T0.setTop (mkF m 3 #[.val (.ref a1), .val (.int p1)] [(.int p1), (.int p1)]))
  refine ownVia (fun _ k => XS.isub X0.here hx rfl (hb hby d16_3) rfl k) ?_
  show ownFin _ _ _ _ _ (T0.setTop (mkF m 4 #[.val (.ref a1), .val (.int p1)] [(.int (p1 - p1))]))
  refine ownVia (fun _ k => XS.bipush X0.here hx rfl (hb hby d16_4) k) ?_
  show ownFin _ _ _ _ _ (T0.setTop (mkF m 6 #[.val (.ref a1), .val (.int p1)] [(.int (31 : Int32)), (.int (p1 - p1))]))
  refine ownVia (fun _ k => XS.iushr X0.here hx rfl (hb hby d16_6) rfl k) ?_
  show ownFin _ _ _ _ _ (T0.setTop (mkF m 7 #[.val (.ref a1), .val (.int p1)] [(.int (((p1 - p1).toUInt32 >>> ((31 : Int32) &&& 31).toUInt32).toInt32))]))
  refine ownVia (fun _ k => XS.i2b X0.here hx rfl (hb hby d16_7) rfl k) ?_
  show ownFin _ _ _ _ _ (T0.setTop (mkF m 8 #[.val (.ref a1), .val (.int p1)] [(.int ((((p1 - p1).toUInt32 >>> ((31 : Int32) &&& 31).toUInt32).toInt32).toInt8.toInt32))]))
  rw [(own_cfl : ((((p1 - p1).toUInt32 >>> ((31 : Int32) &&& 31).toUInt32).toInt32).toInt8.toInt32) = 0)]
  show ownFin _ _ _ _ _ (T0.setTop (mkF m 8 #[.val (.ref a1), .val (.int p1)] [(.int (0 : Int32))]))
  refine ownRetB X0 hx hlk hret (hb hby d16_8) (by decide) (by decide) rfl ?_
  show (Q_own_cfa Z a1 p1 h0 n0 k_a1 vs) (some (.int (0 : Int32))) T0.heap _
  rw [e0]
  exact ⟨rfl, N0, rfl⟩
theorem d13_0 : decode jdk_42_method_149_code 0 = .ok (.aload_n 0, 1) := by decide +kernel
theorem d13_1 : decode jdk_42_method_149_code 1 = .ok (.invokespecial 1, 3) := by decide +kernel
theorem d13_4 : decode jdk_42_method_149_code 4 = .ok (.iload_n 3, 1) := by decide +kernel
theorem d13_5 : decode jdk_42_method_149_code 5 = .ok (.ifCond .ne 22, 3) := by decide +kernel
theorem d13_8 : decode jdk_42_method_149_code 8 = .ok (.aload_n 0, 1) := by decide +kernel
theorem d13_9 : decode jdk_42_method_149_code 9 = .ok (.ldc 7, 2) := by decide +kernel
theorem d13_11 : decode jdk_42_method_149_code 11 = .ok (.getfield 9, 3) := by decide +kernel
theorem d13_14 : decode jdk_42_method_149_code 14 = .ok (.putfield 9, 3) := by decide +kernel
theorem d13_17 : decode jdk_42_method_149_code 17 = .ok (.aload_n 0, 1) := by decide +kernel
theorem d13_18 : decode jdk_42_method_149_code 18 = .ok (.ldc 7, 2) := by decide +kernel
theorem d13_20 : decode jdk_42_method_149_code 20 = .ok (.getfield 15, 3) := by decide +kernel
theorem d13_23 : decode jdk_42_method_149_code 23 = .ok (.putfield 15, 3) := by decide +kernel
theorem d13_26 : decode jdk_42_method_149_code 26 = .ok (.return_, 1) := by decide +kernel
theorem d13_27 : decode jdk_42_method_149_code 27 = .ok (.getstatic 38, 3) := by decide +kernel
theorem d13_30 : decode jdk_42_method_149_code 30 = .ok (.ifCond .eq 28, 3) := by decide +kernel
theorem d13_33 : decode jdk_42_method_149_code 33 = .ok (.aload_n 1, 1) := by decide +kernel
theorem d13_34 : decode jdk_42_method_149_code 34 = .ok (.iload_n 2, 1) := by decide +kernel
theorem d13_35 : decode jdk_42_method_149_code 35 = .ok (.iload_n 3, 1) := by decide +kernel
theorem d13_36 : decode jdk_42_method_149_code 36 = .ok (.invokestatic 177, 3) := by decide +kernel
theorem d13_39 : decode jdk_42_method_149_code 39 = .ok (.astore 5, 2) := by decide +kernel
theorem d13_41 : decode jdk_42_method_149_code 41 = .ok (.aload_n 0, 1) := by decide +kernel
theorem d13_42 : decode jdk_42_method_149_code 42 = .ok (.aload 5, 2) := by decide +kernel
theorem d13_44 : decode jdk_42_method_149_code 44 = .ok (.iload_n 3, 1) := by decide +kernel
theorem d13_45 : decode jdk_42_method_149_code 45 = .ok (.invokestatic 47, 3) := by decide +kernel
theorem d13_48 : decode jdk_42_method_149_code 48 = .ok (.putfield 15, 3) := by decide +kernel
theorem d13_51 : decode jdk_42_method_149_code 51 = .ok (.aload_n 0, 1) := by decide +kernel
theorem d13_52 : decode jdk_42_method_149_code 52 = .ok (.aload 5, 2) := by decide +kernel
theorem d13_54 : decode jdk_42_method_149_code 54 = .ok (.putfield 9, 3) := by decide +kernel
theorem d13_57 : decode jdk_42_method_149_code 57 = .ok (.return_, 1) := by decide +kernel
theorem d13_58 : decode jdk_42_method_149_code 58 = .ok (.aload_n 0, 1) := by decide +kernel
theorem d13_59 : decode jdk_42_method_149_code 59 = .ok (.iconst 1, 1) := by decide +kernel
theorem d13_60 : decode jdk_42_method_149_code 60 = .ok (.putfield 15, 3) := by decide +kernel
theorem d13_63 : decode jdk_42_method_149_code 63 = .ok (.aload_n 0, 1) := by decide +kernel
theorem d13_64 : decode jdk_42_method_149_code 64 = .ok (.aload_n 1, 1) := by decide +kernel
theorem d13_65 : decode jdk_42_method_149_code 65 = .ok (.iload_n 2, 1) := by decide +kernel
theorem d13_66 : decode jdk_42_method_149_code 66 = .ok (.iload_n 3, 1) := by decide +kernel
theorem d13_67 : decode jdk_42_method_149_code 67 = .ok (.invokestatic 180, 3) := by decide +kernel
theorem d13_70 : decode jdk_42_method_149_code 70 = .ok (.putfield 9, 3) := by decide +kernel
theorem d13_73 : decode jdk_42_method_149_code 73 = .ok (.return_, 1) := by decide +kernel
theorem own_ef92 (m : MethodId) (a1 : Addr) (a2 : Addr) (z : Int32) : entryFrame m #[(.ref a1), (.ref a2), (.int (0 : Int32)), (.int z), .null] 6 = mkF m 0 #[.val (.ref a1), .val (.ref a2), .val (.int (0 : Int32)), .val (.int z), .val .null, .unset] [] := by first | (simp [entryFrame, mkF, argsToLocals, Value.category]; done) | rfl
def Q_own_s4 (Z : State) (a1 : Addr) (a2 : Addr) (z : Int32) (h0 : Heap) (n0 : Nat) (cs0 : Int32) (k_a2 : ClassId) (cs : List Int32) : Option Value → Heap → List Loc → Prop := fun v h L => v = none ∧ Fr n0 L ∧ Keep h0 h [a1]
theorem own_pd6 : parseMethodDescriptor "([CII)[B" = some ⟨[(.array .char), .int, .int], some (.array .byte)⟩ := by decide +kernel
theorem own_pd7 : parseMethodDescriptor "([BI)B" = some ⟨[(.array .byte), .int], some .byte⟩ := by decide +kernel
set_option maxRecDepth 65536 in
set_option maxHeartbeats 40000000 in
theorem own_s4 (l : Launch) (Z : State) (a0 : Array Value) (hw : ∀ d ∈ tables_1, d.before a0 Z = true)  (a1 : Addr) (a2 : Addr) (z : Int32) (h0 : Heap) (n0 : Nat) (cs0 : Int32) (k_a2 : ClassId) (cs : List Int32) (Z0 : n0 ≤ h0.size) (F_a1_value : Fld Z h0 a1 "java/lang/String" "value" "[B" .null) (F_a1_coder : Fld Z h0 a1 "java/lang/String" "coder" "B" (.int (0 : Int32))) (E_a1 : Exa Z h0 a1 "java/lang/String") (ge_a1 : n0 ≤ a1) (O : Old Z n0 h0) (S_c : Sta Z Z.heap "java/lang/String" "COMPACT_STRINGS" "Z" (.int cs0)) (hcs : ¬ cs0 = (0 : Int32)) (hheld : Jvm.Lit.constHeld Z "java/lang/String" 7) (hcw : Jvm.Lit.compactW.before a0 Z = true) (A_a2 : Arv Z h0 a2 k_a2 .char z (cs.map Value.int) (.int (0 : Int32))) (hz : z.toInt = (cs.length : Int)) (hl3 : cs.length ≤ 3) (hch : ∀ x ∈ cs, 0 ≤ x.toInt ∧ x.toInt ≤ 255) (ne_a1_a2 : a1 ≠ a2) :
    ownMetI l Z (⟨"java/lang/String", "<init>", "([CIILjava/lang/Void;)V"⟩ : MethodName) jdk_42_method_149_code 6 none [] ({ frames := 2, cells := 2, slots := 4, locals := 50 } : Room) #[(.ref a1), (.ref a2), (.int (0 : Int32)), (.int z), .null] h0 (Q_own_s4 Z a1 a2 z h0 n0 cs0 k_a2 cs) := by
  refine ownBodyI (plainFor_of_name own_pn1) ?_
  intro p e s m below meth c T0 hx hby hml hret hlk hZ hown hnm X0 e0 hh0 hI
  have N0 : Fr n0 [] := Fr.nil n0
  refine ownVia (fun _ k => castTop (own_ef92 m a1 a2 z) k) ?_
  show ownFin _ _ _ _ _ (T0.setTop (mkF m 0 #[.val (.ref a1), .val (.ref a2), .val (.int (0 : Int32)), .val (.int z), .val .null, .unset] []))
  have K0 : Keep h0 h0 [a1] := Keep.refl _ _
  have O0 := O
  have X0 : Stand p l e ({ frames := 2, cells := 2, slots := 4, locals := 50 } : Room) (s.setVm s.vm) m #[(.ref a1), (.ref a2), (.int (0 : Int32)), (.int z), .null] below meth c T0 [] 0 0 := X0
  have hS : s.Since s.vm h0.size := (State.WarmedH.refl s).since _
  have hk : h0.size ≤ h0.size := Nat.le_refl _
  refine ownVia (fun _ k => XS.aloadN X0.here hx rfl (hb hby d13_0) rfl rfl k) ?_
  show ownFin _ _ _ _ _ (T0.setTop (mkF m 1 #[.val (.ref a1), .val (.ref a2), .val (.int (0 : Int32)), .val (.int z), .val .null, .unset] [(.ref a1)]))
  obtain ⟨T93, X93, e93, st93⟩ := initO X0 hx hZ hown (hw _ (List.mem_of_getElem? (i := 19) rfl)) (hw _ (List.mem_of_getElem? (i := 20) rfl)) (hw _ (List.mem_of_getElem? (i := 21) rfl)) e0 (g := (mkF m 1 #[.val (.ref a1), .val (.ref a2), .val (.int (0 : Int32)), .val (.int z), .val .null, .unset] [(.ref a1)])) rfl (by rw [hml]; rfl) rfl (hb hby d13_1) (by decide) (W := 0) (by show 2 * 0 + _ ≤ _; exact Nat.le_of_eq rfl) (by decide)
  refine ownVia st93 ?_
  show ownFin _ _ _ _ _ (T93.setTop (mkF m 4 #[.val (.ref a1), .val (.ref a2), .val (.int (0 : Int32)), .val (.int z), .val .null, .unset] []))
  refine ownVia (fun _ k => XS.iloadN X93.here hx rfl (hb hby d13_4) rfl k) ?_
  show ownFin _ _ _ _ _ (T93.setTop (mkF m 5 #[.val (.ref a1), .val (.ref a2), .val (.int (0 : Int32)), .val (.int z), .val .null, .unset] [(.int z)]))
  by_cases hc94 : z = (0 : Int32)
  case pos =>
    have hc94I : z.toInt = 0 := (own_eqi rfl (by decide)).mp hc94
    refine ownVia (fun _ k => XS.ifNo X93.here hx rfl (hb hby d13_5) rfl ((if0 _ _).trans (teq hc94).2) k) ?_
    show ownFin _ _ _ _ _ (T93.setTop (mkF m 8 #[.val (.ref a1), .val (.ref a2), .val (.int (0 : Int32)), .val (.int z), .val .null, .unset] []))
    refine ownVia (fun _ k => XS.aloadN X93.here hx rfl (hb hby d13_8) rfl rfl k) ?_
    show ownFin _ _ _ _ _ (T93.setTop (mkF m 9 #[.val (.ref a1), .val (.ref a2), .val (.int (0 : Int32)), .val (.int z), .val .null, .unset] [(.ref a1)]))
    obtain ⟨y1, T95, h95, kk95, y2, ky, X95, e95, E95, hS, hk2, hZ, hown, E_y1, F_y1_coder, F_y1_value, A_y2, -, -, -, hL, st95⟩ := ldcSVL (s := s) (vm0 := s.vm) (Ts := []) X93 hx hZ hown (hw _ (List.mem_of_getElem? (i := 103) rfl)) (own_satoms hw) e93 hS hk (Fr.nil _) (fun b cl q => by rw [hh0]; exact O0.2.2 b cl q) hI (by decide) hheld hcw (vs := []) (z := (0 : Int32)) ⟨by decide, rfl⟩ (by decide) (by decide) (g := (mkF m 9 #[.val (.ref a1), .val (.ref a2), .val (.int (0 : Int32)), .val (.int z), .val .null, .unset] [(.ref a1)])) rfl (hb hby d13_9) (n := 0) (by decide) (by decide) (by decide) (by decide)
    have F_a1_value := F_a1_value.ext E95
    have F_a1_coder := F_a1_coder.ext E95
    have E_a1 := E_a1.ext E95
    have A_a2 := A_a2.ext E95
    have K0 := K0.ext E95
    have O := O.ext E95
    have Z0 := own_sz Z0 E95
    have hk := hk2
    have ne_y1_a1 : y1 ≠ a1 := Fld.ne F_y1_value F_a1_value (fun q => nomatch q)
    refine ownVia st95 ?_
    show ownFin _ _ _ _ _ (T95.setTop (mkF m 11 #[.val (.ref a1), .val (.ref a2), .val (.int (0 : Int32)), .val (.int z), .val .null, .unset] [(.ref y1), (.ref a1)]))
    obtain ⟨T96, X96, e96, st96⟩ := getF X95 hx hZ hown (host := "") (Or.inl (hw _ (List.mem_of_getElem? (i := 22) rfl))) Via.refl e95 F_y1_value (g := (mkF m 11 #[.val (.ref a1), .val (.ref a2), .val (.int (0 : Int32)), .val (.int z), .val .null, .unset] [(.ref y1), (.ref a1)])) rfl rfl (hb hby d13_11)
    refine ownVia st96 ?_
    show ownFin _ _ _ _ _ (T96.setTop (mkF m 14 #[.val (.ref a1), .val (.ref a2), .val (.int (0 : Int32)), .val (.int z), .val .null, .unset] [(.ref y2), (.ref a1)]))
    obtain ⟨T97, h97, X97, e97, W97, st97⟩ := putF X96 hx hZ hown (host := "") (Or.inl (hw _ (List.mem_of_getElem? (i := 22) rfl))) Via.refl e96 F_a1_value E_a1 (Or.inr ⟨(hw _ (List.mem_of_getElem? (i := 23) rfl)), rfl, hnm⟩) (hw _ (List.mem_of_getElem? (i := 10) rfl)) (ty := (.array .byte)) (by decide) rfl rfl (g := (mkF m 14 #[.val (.ref a1), .val (.ref a2), .val (.int (0 : Int32)), .val (.int z), .val .null, .unset] [(.ref y2), (.ref a1)])) rfl rfl (hb hby d13_14)
    have N97 := Fr.snoc X97 N0 ge_a1
    have F_a1_value := F_a1_value.same W97
    have F_a1_coder := F_a1_coder.other W97 (Or.inr (slot_ne (Or.inr (hw _ (List.mem_of_getElem? (i := 25) rfl))) (Or.inr (hw _ (List.mem_of_getElem? (i := 23) rfl))) (by decide) (t := .byte) (t' := (.array .byte)) (by decide) (by decide)))
    have E_a1 := E_a1.wr W97
    have A_a2 := A_a2.other W97 (Ne.symm ne_a1_a2)
    have E_y1 := E_y1.wr W97
    have F_y1_coder := F_y1_coder.other W97 (Or.inl ne_y1_a1)
    have F_y1_value := F_y1_value.other W97 (Or.inl ne_y1_a1)
    have K0 := K0.wr W97 (Or.inl (List.mem_of_getElem? (i := 0) rfl))
    have Z0 := own_szW Z0 W97
    have hk := own_szW hk W97
    have O := O.wr W97 ge_a1
    refine ownVia st97 ?_
    show ownFin _ _ _ _ _ (T97.setTop (mkF m 17 #[.val (.ref a1), .val (.ref a2), .val (.int (0 : Int32)), .val (.int z), .val .null, .unset] []))
    refine ownVia (fun _ k => XS.aloadN X97.here hx rfl (hb hby d13_17) rfl rfl k) ?_
    show ownFin _ _ _ _ _ (T97.setTop (mkF m 18 #[.val (.ref a1), .val (.ref a2), .val (.int (0 : Int32)), .val (.int z), .val .null, .unset] [(.ref a1)]))
    refine ownVia (fun _ k => ldcAgain X97 hx hZ hown (hw _ (List.mem_of_getElem? (i := 103) rfl)) hL (g := (mkF m 18 #[.val (.ref a1), .val (.ref a2), .val (.int (0 : Int32)), .val (.int z), .val .null, .unset] [(.ref a1)])) rfl (hb hby d13_18) _ k) ?_
    show ownFin _ _ _ _ _ (T97.setTop (mkF m 20 #[.val (.ref a1), .val (.ref a2), .val (.int (0 : Int32)), .val (.int z), .val .null, .unset] [(.ref y1), (.ref a1)]))
    obtain ⟨T98, X98, e98, st98⟩ := getF X97 hx hZ hown (host := "") (Or.inl (hw _ (List.mem_of_getElem? (i := 24) rfl))) Via.refl e97 F_y1_coder (g := (mkF m 20 #[.val (.ref a1), .val (.ref a2), .val (.int (0 : Int32)), .val (.int z), .val .null, .unset] [(.ref y1), (.ref a1)])) rfl rfl (hb hby d13_20)
    refine ownVia st98 ?_
    show ownFin _ _ _ _ _ (T98.setTop (mkF m 23 #[.val (.ref a1), .val (.ref a2), .val (.int (0 : Int32)), .val (.int z), .val .null, .unset] [(.int (0 : Int32)), (.ref a1)]))
    obtain ⟨T99, h99, X99, e99, W99, st99⟩ := putFN X98 hx hZ hown (hw _ (List.mem_of_getElem? (i := 24) rfl)) Via.refl e98 F_a1_coder E_a1 (Or.inr ⟨(hw _ (List.mem_of_getElem? (i := 25) rfl)), rfl, hnm⟩) (hw _ (List.mem_of_getElem? (i := 10) rfl)) (ty := .byte) (v' := (.int (0 : Int32))) (by decide) rfl rfl (g := (mkF m 23 #[.val (.ref a1), .val (.ref a2), .val (.int (0 : Int32)), .val (.int z), .val .null, .unset] [(.int (0 : Int32)), (.ref a1)])) rfl rfl (hb hby d13_23)
    have N99 := Fr.snoc X99 N97 ge_a1
    have F_a1_coder := F_a1_coder.same W99
    have F_a1_value := F_a1_value.other W99 (Or.inr (slot_ne (Or.inr (hw _ (List.mem_of_getElem? (i := 23) rfl))) (Or.inr (hw _ (List.mem_of_getElem? (i := 25) rfl))) (by decide) (t := (.array .byte)) (t' := .byte) (by decide) (by decide)))
    have E_a1 := E_a1.wr W99
    have A_a2 := A_a2.other W99 (Ne.symm ne_a1_a2)
    have E_y1 := E_y1.wr W99
    have F_y1_coder := F_y1_coder.other W99 (Or.inl ne_y1_a1)
    have F_y1_value := F_y1_value.other W99 (Or.inl ne_y1_a1)
    have K0 := K0.wr W99 (Or.inl (List.mem_of_getElem? (i := 0) rfl))
    have Z0 := own_szW Z0 W99
    have hk := own_szW hk W99
    have O := O.wr W99 ge_a1
    refine ownVia st99 ?_
    show ownFin _ _ _ _ _ (T99.setTop (mkF m 26 #[.val (.ref a1), .val (.ref a2), .val (.int (0 : Int32)), .val (.int z), .val .null, .unset] []))
    refine ownRetVW X99 hx hlk hS (by first | exact hk | (rw [e99]; exact hk)) hret (hb hby d13_26) (by decide) (by decide) ?_
    show (Q_own_s4 Z a1 a2 z h0 n0 cs0 k_a2 cs) none T99.heap _
    rw [e99]
    exact ⟨rfl, N99, K0⟩
  case neg =>
    have hc94I : ¬ z.toInt = 0 := fun q => hc94 ((own_eqi rfl (by decide)).mpr q)
    refine ownVia (fun _ k => XS.ifYes X93.here hx rfl (pc0 := 5) (pc' := 27) rfl (hb hby d13_5) rfl ((if0 _ _).trans (feq hc94).2) (by decide) (by decide) k) ?_
    show ownFin _ _ _ _ _ (T93.setTop (mkF m 27 #[.val (.ref a1), .val (.ref a2), .val (.int (0 : Int32)), .val (.int z), .val .null, .unset] []))
    obtain ⟨T100, X100, e100, st100⟩ := getS2 X93 hx hZ hown (host := "") (Or.inl (hw _ (List.mem_of_getElem? (i := 4) rfl))) Via.refl e93 (S_c.ext O.2) (g := (mkF m 27 #[.val (.ref a1), .val (.ref a2), .val (.int (0 : Int32)), .val (.int z), .val .null, .unset] [])) rfl (hb hby d13_27)
    refine ownVia st100 ?_
    show ownFin _ _ _ _ _ (T100.setTop (mkF m 30 #[.val (.ref a1), .val (.ref a2), .val (.int (0 : Int32)), .val (.int z), .val .null, .unset] [(.int cs0)]))
    refine ownVia (fun _ k => XS.ifNo X100.here hx rfl (hb hby d13_30) rfl ((if0 _ _).trans (feq hcs).1) k) ?_
    show ownFin _ _ _ _ _ (T100.setTop (mkF m 33 #[.val (.ref a1), .val (.ref a2), .val (.int (0 : Int32)), .val (.int z), .val .null, .unset] []))
    refine ownVia (fun _ k => XS.aloadN X100.here hx rfl (hb hby d13_33) rfl rfl k) ?_
    show ownFin _ _ _ _ _ (T100.setTop (mkF m 34 #[.val (.ref a1), .val (.ref a2), .val (.int (0 : Int32)), .val (.int z), .val .null, .unset] [(.ref a2)]))
    refine ownVia (fun _ k => XS.iloadN X100.here hx rfl (hb hby d13_34) rfl k) ?_
    show ownFin _ _ _ _ _ (T100.setTop (mkF m 35 #[.val (.ref a1), .val (.ref a2), .val (.int (0 : Int32)), .val (.int z), .val .null, .unset] [(.int (0 : Int32)), (.ref a2)]))
    refine ownVia (fun _ k => XS.iloadN X100.here hx rfl (hb hby d13_35) rfl k) ?_
    show ownFin _ _ _ _ _ (T100.setTop (mkF m 36 #[.val (.ref a1), .val (.ref a2), .val (.int (0 : Int32)), .val (.int z), .val .null, .unset] [(.int z), (.int (0 : Int32)), (.ref a2)]))
    refine ownCallS X100 hx hZ hown (hw _ (List.mem_of_getElem? (i := 85) rfl)) (hw _ (List.mem_of_getElem? (i := 86) rfl)) (hw _ (List.mem_of_getElem? (i := 87) rfl)) (hw _ (List.mem_of_getElem? (i := 88) rfl)) (by decide) e100 (own_cmp1 l Z a0 hw a2 z h0 n0 k_a2 z cs Z0 A_a2 hz hl3 hch hz) (by rw [hml]; rfl) [(.ref a2), (.int (0 : Int32)), (.int z)] [] (lenOf own_pd6 rfl) rfl rfl 0 rfl (hb hby d13_36) (by decide) (by decide) (by decide) (by decide) ?_
    intro v101 T101 L101 X101 hq101
    obtain ⟨b1, kb1, vs, rfl, N101q, K101, sq101, A_b1⟩ := hq101
    have ne_a1_b1 : a1 ≠ b1 := Nat.ne_of_lt (Nat.lt_of_lt_of_le E_a1.lt sq101)
    have ne_a2_b1 : a2 ≠ b1 := Nat.ne_of_lt (Nat.lt_of_lt_of_le A_a2.lt sq101)
    have ge_b1 : n0 ≤ b1 := Nat.le_trans Z0 sq101
    have sz_b1 : h0.size ≤ b1 := Nat.le_trans K0.1 sq101
    have F_a1_value := F_a1_value.keep K101 nin0
    have F_a1_coder := F_a1_coder.keep K101 nin0
    have E_a1 := E_a1.keep K101
    have A_a2 := A_a2.keep K101 nin0
    have K0 := K0.trans K101 all0
    have Z0 := Nat.le_trans Z0 K101.1
    have hk := Nat.le_trans hk K101.1
    have O := O.keep K101 all0
    have N101 := Fr.app N0 N101q
    show ownFin _ _ _ _ _ (T101.setTop (mkF m 39 #[.val (.ref a1), .val (.ref a2), .val (.int (0 : Int32)), .val (.int z), .val .null, .unset] [(.ref b1)]))
    refine ownVia (fun _ k => XS.astore X101.here hx rfl (hb hby d13_39) rfl rfl (l' := #[.val (.ref a1), .val (.ref a2), .val (.int (0 : Int32)), .val (.int z), .val .null, .val (.ref b1)]) rfl k) ?_
    show ownFin _ _ _ _ _ (T101.setTop (mkF m 41 #[.val (.ref a1), .val (.ref a2), .val (.int (0 : Int32)), .val (.int z), .val .null, .val (.ref b1)] []))
    refine ownVia (fun _ k => XS.aloadN X101.here hx rfl (hb hby d13_41) rfl rfl k) ?_
    show ownFin _ _ _ _ _ (T101.setTop (mkF m 42 #[.val (.ref a1), .val (.ref a2), .val (.int (0 : Int32)), .val (.int z), .val .null, .val (.ref b1)] [(.ref a1)]))
    refine ownVia (fun _ k => XS.aload X101.here hx rfl (hb hby d13_42) rfl rfl k) ?_
    show ownFin _ _ _ _ _ (T101.setTop (mkF m 44 #[.val (.ref a1), .val (.ref a2), .val (.int (0 : Int32)), .val (.int z), .val .null, .val (.ref b1)] [(.ref b1), (.ref a1)]))
    refine ownVia (fun _ k => XS.iloadN X101.here hx rfl (hb hby d13_44) rfl k) ?_
    show ownFin _ _ _ _ _ (T101.setTop (mkF m 45 #[.val (.ref a1), .val (.ref a2), .val (.int (0 : Int32)), .val (.int z), .val .null, .val (.ref b1)] [(.int z), (.ref b1), (.ref a1)]))
    refine ownCallS X101 hx hZ hown (hw _ (List.mem_of_getElem? (i := 92) rfl)) (hw _ (List.mem_of_getElem? (i := 93) rfl)) (hw _ (List.mem_of_getElem? (i := 87) rfl)) (hw _ (List.mem_of_getElem? (i := 94) rfl)) (by decide) (rfl : T101.heap = T101.heap) (own_cfa l Z a0 hw b1 z T101.heap n0 kb1 vs Z0 A_b1) (by rw [hml]; rfl) [(.ref b1), (.int z)] [(.ref a1)] (lenOf own_pd7 rfl) rfl rfl 1 rfl (hb hby d13_45) (by decide) (by decide) (by decide) (by decide) ?_
    intro v102 T102 L102 X102 hq102
    obtain ⟨rfl, N102q, eq102⟩ := hq102
    have N102 := Fr.app N101 N102q
    have e102 : T102.heap = T101.heap := eq102
    show ownFin _ _ _ _ _ (T102.setTop (mkF m 48 #[.val (.ref a1), .val (.ref a2), .val (.int (0 : Int32)), .val (.int z), .val .null, .val (.ref b1)] [(.int (0 : Int32)), (.ref a1)]))
    obtain ⟨T103, h103, X103, e103, W103, st103⟩ := putFN X102 hx hZ hown (hw _ (List.mem_of_getElem? (i := 24) rfl)) Via.refl e102 F_a1_coder E_a1 (Or.inr ⟨(hw _ (List.mem_of_getElem? (i := 25) rfl)), rfl, hnm⟩) (hw _ (List.mem_of_getElem? (i := 10) rfl)) (ty := .byte) (v' := (.int (0 : Int32))) (by decide) rfl rfl (g := (mkF m 48 #[.val (.ref a1), .val (.ref a2), .val (.int (0 : Int32)), .val (.int z), .val .null, .val (.ref b1)] [(.int (0 : Int32)), (.ref a1)])) rfl rfl (hb hby d13_48)
    have N103 := Fr.snoc X103 N102 ge_a1
    have F_a1_coder := F_a1_coder.same W103
    have F_a1_value := F_a1_value.other W103 (Or.inr (slot_ne (Or.inr (hw _ (List.mem_of_getElem? (i := 23) rfl))) (Or.inr (hw _ (List.mem_of_getElem? (i := 25) rfl))) (by decide) (t := (.array .byte)) (t' := .byte) (by decide) (by decide)))
    have E_a1 := E_a1.wr W103
    have A_a2 := A_a2.other W103 (Ne.symm ne_a1_a2)
    have A_b1 := A_b1.other W103 (Ne.symm ne_a1_b1)
    have K0 := K0.wr W103 (Or.inl (List.mem_of_getElem? (i := 0) rfl))
    have Z0 := own_szW Z0 W103
    have hk := own_szW hk W103
    have O := O.wr W103 ge_a1
    refine ownVia st103 ?_
    show ownFin _ _ _ _ _ (T103.setTop (mkF m 51 #[.val (.ref a1), .val (.ref a2), .val (.int (0 : Int32)), .val (.int z), .val .null, .val (.ref b1)] []))
    refine ownVia (fun _ k => XS.aloadN X103.here hx rfl (hb hby d13_51) rfl rfl k) ?_
    show ownFin _ _ _ _ _ (T103.setTop (mkF m 52 #[.val (.ref a1), .val (.ref a2), .val (.int (0 : Int32)), .val (.int z), .val .null, .val (.ref b1)] [(.ref a1)]))
    refine ownVia (fun _ k => XS.aload X103.here hx rfl (hb hby d13_52) rfl rfl k) ?_
    show ownFin _ _ _ _ _ (T103.setTop (mkF m 54 #[.val (.ref a1), .val (.ref a2), .val (.int (0 : Int32)), .val (.int z), .val .null, .val (.ref b1)] [(.ref b1), (.ref a1)]))
    obtain ⟨T104, h104, X104, e104, W104, st104⟩ := putF X103 hx hZ hown (host := "") (Or.inl (hw _ (List.mem_of_getElem? (i := 22) rfl))) Via.refl e103 F_a1_value E_a1 (Or.inr ⟨(hw _ (List.mem_of_getElem? (i := 23) rfl)), rfl, hnm⟩) (hw _ (List.mem_of_getElem? (i := 10) rfl)) (ty := (.array .byte)) (by decide) rfl rfl (g := (mkF m 54 #[.val (.ref a1), .val (.ref a2), .val (.int (0 : Int32)), .val (.int z), .val .null, .val (.ref b1)] [(.ref b1), (.ref a1)])) rfl rfl (hb hby d13_54)
    have N104 := Fr.snoc X104 N103 ge_a1
    have F_a1_value := F_a1_value.same W104
    have F_a1_coder := F_a1_coder.other W104 (Or.inr (slot_ne (Or.inr (hw _ (List.mem_of_getElem? (i := 25) rfl))) (Or.inr (hw _ (List.mem_of_getElem? (i := 23) rfl))) (by decide) (t := .byte) (t' := (.array .byte)) (by decide) (by decide)))
    have E_a1 := E_a1.wr W104
    have A_a2 := A_a2.other W104 (Ne.symm ne_a1_a2)
    have A_b1 := A_b1.other W104 (Ne.symm ne_a1_b1)
    have K0 := K0.wr W104 (Or.inl (List.mem_of_getElem? (i := 0) rfl))
    have Z0 := own_szW Z0 W104
    have hk := own_szW hk W104
    have O := O.wr W104 ge_a1
    refine ownVia st104 ?_
    show ownFin _ _ _ _ _ (T104.setTop (mkF m 57 #[.val (.ref a1), .val (.ref a2), .val (.int (0 : Int32)), .val (.int z), .val .null, .val (.ref b1)] []))
    refine ownRetVW X104 hx hlk hS (by first | exact hk | (rw [e104]; exact hk)) hret (hb hby d13_57) (by decide) (by decide) ?_
    show (Q_own_s4 Z a1 a2 z h0 n0 cs0 k_a2 cs) none T104.heap _
    rw [e104]
    exact ⟨rfl, N104, K0⟩
theorem d12_0 : decode jdk_42_method_3_code 0 = .ok (.aload_n 0, 1) := by decide +kernel
theorem d12_1 : decode jdk_42_method_3_code 1 = .ok (.aload_n 1, 1) := by decide +kernel
theorem d12_2 : decode jdk_42_method_3_code 2 = .ok (.iconst 0, 1) := by decide +kernel
theorem d12_3 : decode jdk_42_method_3_code 3 = .ok (.aload_n 1, 1) := by decide +kernel
theorem d12_4 : decode jdk_42_method_3_code 4 = .ok (.arraylength, 1) := by decide +kernel
theorem d12_5 : decode jdk_42_method_3_code 5 = .ok (.aconst_null, 1) := by decide +kernel
theorem d12_6 : decode jdk_42_method_3_code 6 = .ok (.invokespecial 27, 3) := by decide +kernel
theorem d12_9 : decode jdk_42_method_3_code 9 = .ok (.return_, 1) := by decide +kernel
theorem own_ef105 (m : MethodId) (a1 : Addr) (a2 : Addr) : entryFrame m #[(.ref a1), (.ref a2)] 2 = mkF m 0 #[.val (.ref a1), .val (.ref a2)] [] := by first | (simp [entryFrame, mkF, argsToLocals, Value.category]; done) | rfl
def Q_own_s1 (Z : State) (a1 : Addr) (a2 : Addr) (h0 : Heap) (n0 : Nat) (cs0 : Int32) (k_a2 : ClassId) (z : Int32) (cs : List Int32) : Option Value → Heap → List Loc → Prop := fun v h L => v = none ∧ Fr n0 L ∧ Keep h0 h [a1]
theorem own_pd8 : parseMethodDescriptor "([CIILjava/lang/Void;)V" = some ⟨[(.array .char), .int, .int, (.object "java/lang/Void")], none⟩ := by decide +kernel
set_option maxRecDepth 65536 in
set_option maxHeartbeats 40000000 in
theorem own_s1 (l : Launch) (Z : State) (a0 : Array Value) (hw : ∀ d ∈ tables_1, d.before a0 Z = true)  (a1 : Addr) (a2 : Addr) (h0 : Heap) (n0 : Nat) (cs0 : Int32) (k_a2 : ClassId) (z : Int32) (cs : List Int32) (Z0 : n0 ≤ h0.size) (F_a1_value : Fld Z h0 a1 "java/lang/String" "value" "[B" .null) (F_a1_coder : Fld Z h0 a1 "java/lang/String" "coder" "B" (.int (0 : Int32))) (E_a1 : Exa Z h0 a1 "java/lang/String") (ge_a1 : n0 ≤ a1) (O : Old Z n0 h0) (S_c : Sta Z Z.heap "java/lang/String" "COMPACT_STRINGS" "Z" (.int cs0)) (hcs : ¬ cs0 = (0 : Int32)) (hheld : Jvm.Lit.constHeld Z "java/lang/String" 7) (hcw : Jvm.Lit.compactW.before a0 Z = true) (A_a2 : Arv Z h0 a2 k_a2 .char z (cs.map Value.int) (.int (0 : Int32))) (hz : z.toInt = (cs.length : Int)) (hl3 : cs.length ≤ 3) (hch : ∀ x ∈ cs, 0 ≤ x.toInt ∧ x.toInt ≤ 255) (ne_a1_a2 : a1 ≠ a2) :
    ownMetI l Z (⟨"java/lang/String", "<init>", "([C)V"⟩ : MethodName) jdk_42_method_3_code 2 none [] ({ frames := 3, cells := 2, slots := 4, locals := 80 } : Room) #[(.ref a1), (.ref a2)] h0 (Q_own_s1 Z a1 a2 h0 n0 cs0 k_a2 z cs) := by
  refine ownBodyI (plainFor_of_name own_pn1) ?_
  intro p e s m below meth c T0 hx hby hml hret hlk hZ hown hnm X0 e0 hh0 hI
  have N0 : Fr n0 [] := Fr.nil n0
  refine ownVia (fun _ k => castTop (own_ef105 m a1 a2) k) ?_
  show ownFin _ _ _ _ _ (T0.setTop (mkF m 0 #[.val (.ref a1), .val (.ref a2)] []))
  have K0 : Keep h0 h0 [a1] := Keep.refl _ _
  refine ownVia (fun _ k => XS.aloadN X0.here hx rfl (hb hby d12_0) rfl rfl k) ?_
  show ownFin _ _ _ _ _ (T0.setTop (mkF m 1 #[.val (.ref a1), .val (.ref a2)] [(.ref a1)]))
  refine ownVia (fun _ k => XS.aloadN X0.here hx rfl (hb hby d12_1) rfl rfl k) ?_
  show ownFin _ _ _ _ _ (T0.setTop (mkF m 2 #[.val (.ref a1), .val (.ref a2)] [(.ref a2), (.ref a1)]))
  refine ownVia (fun _ k => XS.iconst X0.here hx rfl (hb hby d12_2) k) ?_
  show ownFin _ _ _ _ _ (T0.setTop (mkF m 3 #[.val (.ref a1), .val (.ref a2)] [(.int (0 : Int32)), (.ref a2), (.ref a1)]))
  refine ownVia (fun _ k => XS.aloadN X0.here hx rfl (hb hby d12_3) rfl rfl k) ?_
  show ownFin _ _ _ _ _ (T0.setTop (mkF m 4 #[.val (.ref a1), .val (.ref a2)] [(.ref a2), (.int (0 : Int32)), (.ref a2), (.ref a1)]))
  refine ownLen X0 hx hZ e0 A_a2 (hb hby d12_4) ?_
  show ownFin _ _ _ _ _ (T0.setTop (mkF m 5 #[.val (.ref a1), .val (.ref a2)] [(.int z), (.int (0 : Int32)), (.ref a2), (.ref a1)]))
  refine ownVia (fun _ k => XS.aconstNull X0.here hx rfl (hb hby d12_5) k) ?_
  show ownFin _ _ _ _ _ (T0.setTop (mkF m 6 #[.val (.ref a1), .val (.ref a2)] [.null, (.int z), (.int (0 : Int32)), (.ref a2), (.ref a1)]))
  refine ownCallNI X0 hx hZ hI hown rfl (hw _ (List.mem_of_getElem? (i := 82) rfl)) (hw _ (List.mem_of_getElem? (i := 83) rfl)) (hw _ (List.mem_of_getElem? (i := 2) rfl)) (hw _ (List.mem_of_getElem? (i := 84) rfl)) (by decide) e0 (own_s4 l Z a0 hw a1 a2 z h0 n0 cs0 k_a2 cs Z0 F_a1_value F_a1_coder E_a1 ge_a1 O S_c hcs hheld hcw A_a2 hz hl3 hch ne_a1_a2) (by rw [hml]; rfl) a1 [(.ref a2), (.int (0 : Int32)), (.int z), .null] [] (lenOf own_pd8 rfl) rfl rfl 0 rfl (hb hby d12_6) (by decide) (by decide) (by decide) (by decide) ?_
  intro v106 T106 L106 X106 hq106 hZ hown hS hk
  obtain ⟨rfl, N106q, K106⟩ := hq106
  have N106 := Fr.app N0 N106q
  show ownFin _ _ _ _ _ (T106.setTop (mkF m 9 #[.val (.ref a1), .val (.ref a2)] []))
  refine ownRetVW X106 hx hlk hS (by first | exact hk | (rw [show (0 : Nat) = 0 from rfl]; exact hk)) hret (hb hby d12_9) (by decide) (by decide) ?_
  show (Q_own_s1 Z a1 a2 h0 n0 cs0 k_a2 z cs) none T106.heap _
  exact ⟨rfl, N106, K106⟩
theorem d11_0 : decode method_3_code 0 = .ok (.iload_n 1, 1) := by decide +kernel
theorem d11_1 : decode method_3_code 1 = .ok (.sipush 255, 3) := by decide +kernel
theorem d11_4 : decode method_3_code 4 = .ok (.iand, 1) := by decide +kernel
theorem d11_5 : decode method_3_code 5 = .ok (.i2c, 1) := by decide +kernel
theorem d11_6 : decode method_3_code 6 = .ok (.istore_n 2, 1) := by decide +kernel
theorem d11_7 : decode method_3_code 7 = .ok (.iload_n 1, 1) := by decide +kernel
theorem d11_8 : decode method_3_code 8 = .ok (.bipush 8, 2) := by decide +kernel
theorem d11_10 : decode method_3_code 10 = .ok (.iushr, 1) := by decide +kernel
theorem d11_11 : decode method_3_code 11 = .ok (.sipush 255, 3) := by decide +kernel
theorem d11_14 : decode method_3_code 14 = .ok (.iand, 1) := by decide +kernel
theorem d11_15 : decode method_3_code 15 = .ok (.i2c, 1) := by decide +kernel
theorem d11_16 : decode method_3_code 16 = .ok (.istore_n 3, 1) := by decide +kernel
theorem d11_17 : decode method_3_code 17 = .ok (.iload_n 1, 1) := by decide +kernel
theorem d11_18 : decode method_3_code 18 = .ok (.bipush 16, 2) := by decide +kernel
theorem d11_20 : decode method_3_code 20 = .ok (.iushr, 1) := by decide +kernel
theorem d11_21 : decode method_3_code 21 = .ok (.sipush 255, 3) := by decide +kernel
theorem d11_24 : decode method_3_code 24 = .ok (.iand, 1) := by decide +kernel
theorem d11_25 : decode method_3_code 25 = .ok (.i2c, 1) := by decide +kernel
theorem d11_26 : decode method_3_code 26 = .ok (.istore 4, 2) := by decide +kernel
theorem d11_28 : decode method_3_code 28 = .ok (.iconst 0, 1) := by decide +kernel
theorem d11_29 : decode method_3_code 29 = .ok (.newarray .char, 2) := by decide +kernel
theorem d11_31 : decode method_3_code 31 = .ok (.astore 5, 2) := by decide +kernel
theorem d11_33 : decode method_3_code 33 = .ok (.iconst 1, 1) := by decide +kernel
theorem d11_34 : decode method_3_code 34 = .ok (.newarray .char, 2) := by decide +kernel
theorem d11_36 : decode method_3_code 36 = .ok (.dup, 1) := by decide +kernel
theorem d11_37 : decode method_3_code 37 = .ok (.iconst 0, 1) := by decide +kernel
theorem d11_38 : decode method_3_code 38 = .ok (.iload_n 2, 1) := by decide +kernel
theorem d11_39 : decode method_3_code 39 = .ok (.castore, 1) := by decide +kernel
theorem d11_40 : decode method_3_code 40 = .ok (.astore 6, 2) := by decide +kernel
theorem d11_42 : decode method_3_code 42 = .ok (.iconst 2, 1) := by decide +kernel
theorem d11_43 : decode method_3_code 43 = .ok (.newarray .char, 2) := by decide +kernel
theorem d11_45 : decode method_3_code 45 = .ok (.dup, 1) := by decide +kernel
theorem d11_46 : decode method_3_code 46 = .ok (.iconst 0, 1) := by decide +kernel
theorem d11_47 : decode method_3_code 47 = .ok (.iload_n 2, 1) := by decide +kernel
theorem d11_48 : decode method_3_code 48 = .ok (.castore, 1) := by decide +kernel
theorem d11_49 : decode method_3_code 49 = .ok (.dup, 1) := by decide +kernel
theorem d11_50 : decode method_3_code 50 = .ok (.iconst 1, 1) := by decide +kernel
theorem d11_51 : decode method_3_code 51 = .ok (.iload_n 3, 1) := by decide +kernel
theorem d11_52 : decode method_3_code 52 = .ok (.castore, 1) := by decide +kernel
theorem d11_53 : decode method_3_code 53 = .ok (.astore 7, 2) := by decide +kernel
theorem d11_55 : decode method_3_code 55 = .ok (.iconst 3, 1) := by decide +kernel
theorem d11_56 : decode method_3_code 56 = .ok (.newarray .char, 2) := by decide +kernel
theorem d11_58 : decode method_3_code 58 = .ok (.dup, 1) := by decide +kernel
theorem d11_59 : decode method_3_code 59 = .ok (.iconst 0, 1) := by decide +kernel
theorem d11_60 : decode method_3_code 60 = .ok (.iload_n 2, 1) := by decide +kernel
theorem d11_61 : decode method_3_code 61 = .ok (.castore, 1) := by decide +kernel
theorem d11_62 : decode method_3_code 62 = .ok (.dup, 1) := by decide +kernel
theorem d11_63 : decode method_3_code 63 = .ok (.iconst 1, 1) := by decide +kernel
theorem d11_64 : decode method_3_code 64 = .ok (.iload_n 3, 1) := by decide +kernel
theorem d11_65 : decode method_3_code 65 = .ok (.castore, 1) := by decide +kernel
theorem d11_66 : decode method_3_code 66 = .ok (.dup, 1) := by decide +kernel
theorem d11_67 : decode method_3_code 67 = .ok (.iconst 2, 1) := by decide +kernel
theorem d11_68 : decode method_3_code 68 = .ok (.iload 4, 2) := by decide +kernel
theorem d11_70 : decode method_3_code 70 = .ok (.castore, 1) := by decide +kernel
theorem d11_71 : decode method_3_code 71 = .ok (.astore 8, 2) := by decide +kernel
theorem d11_73 : decode method_3_code 73 = .ok (.iload_n 0, 1) := by decide +kernel
theorem d11_74 : decode method_3_code 74 = .ok (.ifCond .ne 13, 3) := by decide +kernel
theorem d11_77 : decode method_3_code 77 = .ok (.new 32, 3) := by decide +kernel
theorem d11_80 : decode method_3_code 80 = .ok (.dup, 1) := by decide +kernel
theorem d11_81 : decode method_3_code 81 = .ok (.aload 5, 2) := by decide +kernel
theorem d11_83 : decode method_3_code 83 = .ok (.invokespecial 34, 3) := by decide +kernel
theorem d11_86 : decode method_3_code 86 = .ok (.areturn, 1) := by decide +kernel
theorem d11_87 : decode method_3_code 87 = .ok (.iload_n 0, 1) := by decide +kernel
theorem d11_88 : decode method_3_code 88 = .ok (.iconst 1, 1) := by decide +kernel
theorem d11_89 : decode method_3_code 89 = .ok (.if_icmp .ne 13, 3) := by decide +kernel
theorem d11_92 : decode method_3_code 92 = .ok (.new 32, 3) := by decide +kernel
theorem d11_95 : decode method_3_code 95 = .ok (.dup, 1) := by decide +kernel
theorem d11_96 : decode method_3_code 96 = .ok (.aload 6, 2) := by decide +kernel
theorem d11_98 : decode method_3_code 98 = .ok (.invokespecial 34, 3) := by decide +kernel
theorem d11_101 : decode method_3_code 101 = .ok (.areturn, 1) := by decide +kernel
theorem d11_102 : decode method_3_code 102 = .ok (.iload_n 0, 1) := by decide +kernel
theorem d11_103 : decode method_3_code 103 = .ok (.iconst 2, 1) := by decide +kernel
theorem d11_104 : decode method_3_code 104 = .ok (.if_icmp .ne 13, 3) := by decide +kernel
theorem d11_107 : decode method_3_code 107 = .ok (.new 32, 3) := by decide +kernel
theorem d11_110 : decode method_3_code 110 = .ok (.dup, 1) := by decide +kernel
theorem d11_111 : decode method_3_code 111 = .ok (.aload 7, 2) := by decide +kernel
theorem d11_113 : decode method_3_code 113 = .ok (.invokespecial 34, 3) := by decide +kernel
theorem d11_116 : decode method_3_code 116 = .ok (.areturn, 1) := by decide +kernel
theorem d11_117 : decode method_3_code 117 = .ok (.new 32, 3) := by decide +kernel
theorem d11_120 : decode method_3_code 120 = .ok (.dup, 1) := by decide +kernel
theorem d11_121 : decode method_3_code 121 = .ok (.aload 8, 2) := by decide +kernel
theorem d11_123 : decode method_3_code 123 = .ok (.invokespecial 34, 3) := by decide +kernel
theorem d11_126 : decode method_3_code 126 = .ok (.areturn, 1) := by decide +kernel
theorem own_ef107 (m : MethodId) (p1 : Int32) (p2 : Int32) : entryFrame m #[(.int p1), (.int p2)] 9 = mkF m 0 #[.val (.int p1), .val (.int p2), .unset, .unset, .unset, .unset, .unset, .unset, .unset] [] := by first | (simp [entryFrame, mkF, argsToLocals, Value.category]; done) | rfl
def Q_own_drawn (Z : State) (p1 : Int32) (p2 : Int32) (h0 : Heap) (n0 : Nat) (cs0 : Int32) : Option Value → Heap → List Loc → Prop := fun v h L => ∃ b, v = some (.ref b) ∧ Fr n0 L ∧ Keep h0 h [] ∧ h0.size ≤ b
theorem own_pd9 : parseMethodDescriptor "([C)V" = some ⟨[(.array .char)], none⟩ := by decide +kernel
set_option maxRecDepth 65536 in
set_option maxHeartbeats 40000000 in
theorem own_drawn (l : Launch) (Z : State) (a0 : Array Value) (hw : ∀ d ∈ tables_1, d.before a0 Z = true)  (p1 : Int32) (p2 : Int32) (h0 : Heap) (n0 : Nat) (cs0 : Int32) (Z0 : n0 ≤ h0.size) (O : Old Z n0 h0) (S_c : Sta Z Z.heap "java/lang/String" "COMPACT_STRINGS" "Z" (.int cs0)) (hcs : ¬ cs0 = (0 : Int32)) (hheld : Jvm.Lit.constHeld Z "java/lang/String" 7) (hcw : Jvm.Lit.compactW.before a0 Z = true) (hp : 0 ≤ p1.toInt ∧ p1.toInt ≤ 3) :
    ownMetI l Z (⟨"com/example/tillbridge/tillbridge/channel/LineIsRefundPinLaw", "drawn", "(II)Ljava/lang/String;"⟩ : MethodName) method_3_code 9 (some (.object "java/lang/String")) [] ({ frames := 4, cells := 7, slots := 14, locals := 110 } : Room) #[(.int p1), (.int p2)] h0 (Q_own_drawn Z p1 p2 h0 n0 cs0) := by
  refine ownBodyI (plainFor_of_name own_pn2) ?_
  intro p e s m below meth c T0 hx hby hml hret hlk hZ hown hnm X0 e0 hh0 hI
  have N0 : Fr n0 [] := Fr.nil n0
  refine ownVia (fun _ k => castTop (own_ef107 m p1 p2) k) ?_
  show ownFin _ _ _ _ _ (T0.setTop (mkF m 0 #[.val (.int p1), .val (.int p2), .unset, .unset, .unset, .unset, .unset, .unset, .unset] []))
  have K0 : Keep h0 h0 [] := Keep.refl _ _
  refine ownVia (fun _ k => XS.iloadN X0.here hx rfl (hb hby d11_0) rfl k) ?_
  show ownFin _ _ _ _ _ (T0.setTop (mkF m 1 #[.val (.int p1), .val (.int p2), .unset, .unset, .unset, .unset, .unset, .unset, .unset] [(.int p2)]))
  refine ownVia (fun _ k => XS.sipush X0.here hx rfl (hb hby d11_1) k) ?_
  show ownFin _ _ _ _ _ (T0.setTop (mkF m 4 #[.val (.int p1), .val (.int p2), .unset, .unset, .unset, .unset, .unset, .unset, .unset] [(.int (255 : Int32)), (.int p2)]))
  refine ownVia (fun _ k => XS.iand X0.here hx rfl (hb hby d11_4) rfl k) ?_
  show ownFin _ _ _ _ _ (T0.setTop (mkF m 5 #[.val (.int p1), .val (.int p2), .unset, .unset, .unset, .unset, .unset, .unset, .unset] [(.int (p2 &&& (255 : Int32)))]))
  refine ownVia (fun _ k => XS.i2c X0.here hx rfl (hb hby d11_5) rfl k) ?_
  show ownFin _ _ _ _ _ (T0.setTop (mkF m 6 #[.val (.int p1), .val (.int p2), .unset, .unset, .unset, .unset, .unset, .unset, .unset] [(.int ((p2 &&& (255 : Int32)).toUInt32.toUInt16.toUInt32.toInt32))]))
  have hx_x0 := own_ch p2
  generalize h_x0 : ((p2 &&& (255 : Int32)).toUInt32.toUInt16.toUInt32.toInt32) = x0
  show ownFin _ _ _ _ _ (T0.setTop (mkF m 6 #[.val (.int p1), .val (.int p2), .unset, .unset, .unset, .unset, .unset, .unset, .unset] [(.int x0)]))
  rw [h_x0] at hx_x0
  refine ownVia (fun _ k => XS.istoreN X0.here hx rfl (hb hby d11_6) rfl (l' := #[.val (.int p1), .val (.int p2), .val (.int x0), .unset, .unset, .unset, .unset, .unset, .unset]) rfl k) ?_
  show ownFin _ _ _ _ _ (T0.setTop (mkF m 7 #[.val (.int p1), .val (.int p2), .val (.int x0), .unset, .unset, .unset, .unset, .unset, .unset] []))
  refine ownVia (fun _ k => XS.iloadN X0.here hx rfl (hb hby d11_7) rfl k) ?_
  show ownFin _ _ _ _ _ (T0.setTop (mkF m 8 #[.val (.int p1), .val (.int p2), .val (.int x0), .unset, .unset, .unset, .unset, .unset, .unset] [(.int p2)]))
  refine ownVia (fun _ k => XS.bipush X0.here hx rfl (hb hby d11_8) k) ?_
  show ownFin _ _ _ _ _ (T0.setTop (mkF m 10 #[.val (.int p1), .val (.int p2), .val (.int x0), .unset, .unset, .unset, .unset, .unset, .unset] [(.int (8 : Int32)), (.int p2)]))
  refine ownVia (fun _ k => XS.iushr X0.here hx rfl (hb hby d11_10) rfl k) ?_
  show ownFin _ _ _ _ _ (T0.setTop (mkF m 11 #[.val (.int p1), .val (.int p2), .val (.int x0), .unset, .unset, .unset, .unset, .unset, .unset] [(.int ((p2.toUInt32 >>> ((8 : Int32) &&& 31).toUInt32).toInt32))]))
  refine ownVia (fun _ k => XS.sipush X0.here hx rfl (hb hby d11_11) k) ?_
  show ownFin _ _ _ _ _ (T0.setTop (mkF m 14 #[.val (.int p1), .val (.int p2), .val (.int x0), .unset, .unset, .unset, .unset, .unset, .unset] [(.int (255 : Int32)), (.int ((p2.toUInt32 >>> ((8 : Int32) &&& 31).toUInt32).toInt32))]))
  refine ownVia (fun _ k => XS.iand X0.here hx rfl (hb hby d11_14) rfl k) ?_
  show ownFin _ _ _ _ _ (T0.setTop (mkF m 15 #[.val (.int p1), .val (.int p2), .val (.int x0), .unset, .unset, .unset, .unset, .unset, .unset] [(.int (((p2.toUInt32 >>> ((8 : Int32) &&& 31).toUInt32).toInt32) &&& (255 : Int32)))]))
  refine ownVia (fun _ k => XS.i2c X0.here hx rfl (hb hby d11_15) rfl k) ?_
  show ownFin _ _ _ _ _ (T0.setTop (mkF m 16 #[.val (.int p1), .val (.int p2), .val (.int x0), .unset, .unset, .unset, .unset, .unset, .unset] [(.int ((((p2.toUInt32 >>> ((8 : Int32) &&& 31).toUInt32).toInt32) &&& (255 : Int32)).toUInt32.toUInt16.toUInt32.toInt32))]))
  have hx_x1 := own_ch ((p2.toUInt32 >>> ((8 : Int32) &&& 31).toUInt32).toInt32)
  generalize h_x1 : ((((p2.toUInt32 >>> ((8 : Int32) &&& 31).toUInt32).toInt32) &&& (255 : Int32)).toUInt32.toUInt16.toUInt32.toInt32) = x1
  show ownFin _ _ _ _ _ (T0.setTop (mkF m 16 #[.val (.int p1), .val (.int p2), .val (.int x0), .unset, .unset, .unset, .unset, .unset, .unset] [(.int x1)]))
  rw [h_x1] at hx_x1
  refine ownVia (fun _ k => XS.istoreN X0.here hx rfl (hb hby d11_16) rfl (l' := #[.val (.int p1), .val (.int p2), .val (.int x0), .val (.int x1), .unset, .unset, .unset, .unset, .unset]) rfl k) ?_
  show ownFin _ _ _ _ _ (T0.setTop (mkF m 17 #[.val (.int p1), .val (.int p2), .val (.int x0), .val (.int x1), .unset, .unset, .unset, .unset, .unset] []))
  refine ownVia (fun _ k => XS.iloadN X0.here hx rfl (hb hby d11_17) rfl k) ?_
  show ownFin _ _ _ _ _ (T0.setTop (mkF m 18 #[.val (.int p1), .val (.int p2), .val (.int x0), .val (.int x1), .unset, .unset, .unset, .unset, .unset] [(.int p2)]))
  refine ownVia (fun _ k => XS.bipush X0.here hx rfl (hb hby d11_18) k) ?_
  show ownFin _ _ _ _ _ (T0.setTop (mkF m 20 #[.val (.int p1), .val (.int p2), .val (.int x0), .val (.int x1), .unset, .unset, .unset, .unset, .unset] [(.int (16 : Int32)), (.int p2)]))
  refine ownVia (fun _ k => XS.iushr X0.here hx rfl (hb hby d11_20) rfl k) ?_
  show ownFin _ _ _ _ _ (T0.setTop (mkF m 21 #[.val (.int p1), .val (.int p2), .val (.int x0), .val (.int x1), .unset, .unset, .unset, .unset, .unset] [(.int ((p2.toUInt32 >>> ((16 : Int32) &&& 31).toUInt32).toInt32))]))
  refine ownVia (fun _ k => XS.sipush X0.here hx rfl (hb hby d11_21) k) ?_
  show ownFin _ _ _ _ _ (T0.setTop (mkF m 24 #[.val (.int p1), .val (.int p2), .val (.int x0), .val (.int x1), .unset, .unset, .unset, .unset, .unset] [(.int (255 : Int32)), (.int ((p2.toUInt32 >>> ((16 : Int32) &&& 31).toUInt32).toInt32))]))
  refine ownVia (fun _ k => XS.iand X0.here hx rfl (hb hby d11_24) rfl k) ?_
  show ownFin _ _ _ _ _ (T0.setTop (mkF m 25 #[.val (.int p1), .val (.int p2), .val (.int x0), .val (.int x1), .unset, .unset, .unset, .unset, .unset] [(.int (((p2.toUInt32 >>> ((16 : Int32) &&& 31).toUInt32).toInt32) &&& (255 : Int32)))]))
  refine ownVia (fun _ k => XS.i2c X0.here hx rfl (hb hby d11_25) rfl k) ?_
  show ownFin _ _ _ _ _ (T0.setTop (mkF m 26 #[.val (.int p1), .val (.int p2), .val (.int x0), .val (.int x1), .unset, .unset, .unset, .unset, .unset] [(.int ((((p2.toUInt32 >>> ((16 : Int32) &&& 31).toUInt32).toInt32) &&& (255 : Int32)).toUInt32.toUInt16.toUInt32.toInt32))]))
  have hx_x2 := own_ch ((p2.toUInt32 >>> ((16 : Int32) &&& 31).toUInt32).toInt32)
  generalize h_x2 : ((((p2.toUInt32 >>> ((16 : Int32) &&& 31).toUInt32).toInt32) &&& (255 : Int32)).toUInt32.toUInt16.toUInt32.toInt32) = x2
  show ownFin _ _ _ _ _ (T0.setTop (mkF m 26 #[.val (.int p1), .val (.int p2), .val (.int x0), .val (.int x1), .unset, .unset, .unset, .unset, .unset] [(.int x2)]))
  rw [h_x2] at hx_x2
  refine ownVia (fun _ k => XS.istore X0.here hx rfl (hb hby d11_26) rfl (l' := #[.val (.int p1), .val (.int p2), .val (.int x0), .val (.int x1), .val (.int x2), .unset, .unset, .unset, .unset]) rfl k) ?_
  show ownFin _ _ _ _ _ (T0.setTop (mkF m 28 #[.val (.int p1), .val (.int p2), .val (.int x0), .val (.int x1), .val (.int x2), .unset, .unset, .unset, .unset] []))
  refine ownVia (fun _ k => XS.iconst X0.here hx rfl (hb hby d11_28) k) ?_
  show ownFin _ _ _ _ _ (T0.setTop (mkF m 29 #[.val (.int p1), .val (.int p2), .val (.int x0), .val (.int x1), .val (.int x2), .unset, .unset, .unset, .unset] [(.int (0 : Int32))]))
  refine ownNewP X0 hx hZ (hw _ (List.mem_of_getElem? (i := 77) rfl)) e0 "[C" (by decide) (by decide) (0) (by decide) (0) (by decide) (by decide) (by decide) (by decide) (hb hby d11_29) ?_
  intro T108 h108 k_b0 b0 g108 X108 e108 E108 A_b0 E_b0
  have ge_b0 : n0 ≤ b0 := Nat.le_trans Z0 (Nat.le_of_eq g108.symm)
  have sz_b0 : h0.size ≤ b0 := Nat.le_trans K0.1 (Nat.le_of_eq g108.symm)
  have K0 := K0.ext E108
  have O := O.ext E108
  have Z0 := own_sz Z0 E108
  have A_b0 : Arv Z h108 b0 k_b0 .char (0 : Int32) [] (.int (0 : Int32)) := A_b0
  show ownFin _ _ _ _ _ (T108.setTop (mkF m 31 #[.val (.int p1), .val (.int p2), .val (.int x0), .val (.int x1), .val (.int x2), .unset, .unset, .unset, .unset] [(.ref b0)]))
  refine ownVia (fun _ k => XS.astore X108.here hx rfl (hb hby d11_31) rfl rfl (l' := #[.val (.int p1), .val (.int p2), .val (.int x0), .val (.int x1), .val (.int x2), .val (.ref b0), .unset, .unset, .unset]) rfl k) ?_
  show ownFin _ _ _ _ _ (T108.setTop (mkF m 33 #[.val (.int p1), .val (.int p2), .val (.int x0), .val (.int x1), .val (.int x2), .val (.ref b0), .unset, .unset, .unset] []))
  refine ownVia (fun _ k => XS.iconst X108.here hx rfl (hb hby d11_33) k) ?_
  show ownFin _ _ _ _ _ (T108.setTop (mkF m 34 #[.val (.int p1), .val (.int p2), .val (.int x0), .val (.int x1), .val (.int x2), .val (.ref b0), .unset, .unset, .unset] [(.int (1 : Int32))]))
  refine ownNewP X108 hx hZ (hw _ (List.mem_of_getElem? (i := 77) rfl)) e108 "[C" (by decide) (by decide) (1) (by decide) (1) (by decide) (by decide) (by decide) (by decide) (hb hby d11_34) ?_
  intro T109 h109 k_b1 b1 g109 X109 e109 E109 A_b1 E_b1
  have ne_b0_b1 : b0 ≠ b1 := Nat.ne_of_lt (Nat.lt_of_lt_of_le E_b0.lt (Nat.le_of_eq g109.symm))
  have ge_b1 : n0 ≤ b1 := Nat.le_trans Z0 (Nat.le_of_eq g109.symm)
  have sz_b1 : h0.size ≤ b1 := Nat.le_trans K0.1 (Nat.le_of_eq g109.symm)
  have A_b0 := A_b0.ext E109
  have E_b0 := E_b0.ext E109
  have K0 := K0.ext E109
  have O := O.ext E109
  have Z0 := own_sz Z0 E109
  have A_b1 : Arv Z h109 b1 k_b1 .char (1 : Int32) [(.int (0 : Int32))] (.int (0 : Int32)) := A_b1
  show ownFin _ _ _ _ _ (T109.setTop (mkF m 36 #[.val (.int p1), .val (.int p2), .val (.int x0), .val (.int x1), .val (.int x2), .val (.ref b0), .unset, .unset, .unset] [(.ref b1)]))
  refine ownVia (fun _ k => XS.dup X109.here hx rfl (hb hby d11_36) rfl rfl k) ?_
  show ownFin _ _ _ _ _ (T109.setTop (mkF m 37 #[.val (.int p1), .val (.int p2), .val (.int x0), .val (.int x1), .val (.int x2), .val (.ref b0), .unset, .unset, .unset] [(.ref b1), (.ref b1)]))
  refine ownVia (fun _ k => XS.iconst X109.here hx rfl (hb hby d11_37) k) ?_
  show ownFin _ _ _ _ _ (T109.setTop (mkF m 38 #[.val (.int p1), .val (.int p2), .val (.int x0), .val (.int x1), .val (.int x2), .val (.ref b0), .unset, .unset, .unset] [(.int (0 : Int32)), (.ref b1), (.ref b1)]))
  refine ownVia (fun _ k => XS.iloadN X109.here hx rfl (hb hby d11_38) rfl k) ?_
  show ownFin _ _ _ _ _ (T109.setTop (mkF m 39 #[.val (.int p1), .val (.int p2), .val (.int x0), .val (.int x1), .val (.int x2), .val (.ref b0), .unset, .unset, .unset] [(.int x0), (.int (0 : Int32)), (.ref b1), (.ref b1)]))
  refine ownCastore X109 hx hZ e109 A_b1 ⟨by decide, by decide⟩ (0) (by decide) (Nat.le_of_ble_eq_true rfl) N0 ge_b1 (hb hby d11_39) ?_
  intro T110 h110 L110 X110 e110 N110 W110 A_b1
  have A_b0 := A_b0.other W110 ne_b0_b1
  have E_b0 := E_b0.wr W110
  have E_b1 := E_b1.wr W110
  have K0 := K0.wr W110 (Or.inr sz_b1)
  have Z0 := own_szW Z0 W110
  have O := O.wr W110 ge_b1
  have A_b1 : Arv Z h110 b1 k_b1 .char (1 : Int32) [(.int (nar .char x0))] (.int (0 : Int32)) := A_b1
  show ownFin _ _ _ _ _ (T110.setTop (mkF m 40 #[.val (.int p1), .val (.int p2), .val (.int x0), .val (.int x1), .val (.int x2), .val (.ref b0), .unset, .unset, .unset] [(.ref b1)]))
  refine ownVia (fun _ k => XS.astore X110.here hx rfl (hb hby d11_40) rfl rfl (l' := #[.val (.int p1), .val (.int p2), .val (.int x0), .val (.int x1), .val (.int x2), .val (.ref b0), .val (.ref b1), .unset, .unset]) rfl k) ?_
  show ownFin _ _ _ _ _ (T110.setTop (mkF m 42 #[.val (.int p1), .val (.int p2), .val (.int x0), .val (.int x1), .val (.int x2), .val (.ref b0), .val (.ref b1), .unset, .unset] []))
  refine ownVia (fun _ k => XS.iconst X110.here hx rfl (hb hby d11_42) k) ?_
  show ownFin _ _ _ _ _ (T110.setTop (mkF m 43 #[.val (.int p1), .val (.int p2), .val (.int x0), .val (.int x1), .val (.int x2), .val (.ref b0), .val (.ref b1), .unset, .unset] [(.int (2 : Int32))]))
  refine ownNewP X110 hx hZ (hw _ (List.mem_of_getElem? (i := 77) rfl)) e110 "[C" (by decide) (by decide) (2) (by decide) (2) (by decide) (by decide) (by decide) (by decide) (hb hby d11_43) ?_
  intro T111 h111 k_b2 b2 g111 X111 e111 E111 A_b2 E_b2
  have ne_b0_b2 : b0 ≠ b2 := Nat.ne_of_lt (Nat.lt_of_lt_of_le E_b0.lt (Nat.le_of_eq g111.symm))
  have ne_b1_b2 : b1 ≠ b2 := Nat.ne_of_lt (Nat.lt_of_lt_of_le E_b1.lt (Nat.le_of_eq g111.symm))
  have ge_b2 : n0 ≤ b2 := Nat.le_trans Z0 (Nat.le_of_eq g111.symm)
  have sz_b2 : h0.size ≤ b2 := Nat.le_trans K0.1 (Nat.le_of_eq g111.symm)
  have A_b0 := A_b0.ext E111
  have E_b0 := E_b0.ext E111
  have A_b1 := A_b1.ext E111
  have E_b1 := E_b1.ext E111
  have K0 := K0.ext E111
  have O := O.ext E111
  have Z0 := own_sz Z0 E111
  have A_b2 : Arv Z h111 b2 k_b2 .char (2 : Int32) [(.int (0 : Int32)), (.int (0 : Int32))] (.int (0 : Int32)) := A_b2
  show ownFin _ _ _ _ _ (T111.setTop (mkF m 45 #[.val (.int p1), .val (.int p2), .val (.int x0), .val (.int x1), .val (.int x2), .val (.ref b0), .val (.ref b1), .unset, .unset] [(.ref b2)]))
  refine ownVia (fun _ k => XS.dup X111.here hx rfl (hb hby d11_45) rfl rfl k) ?_
  show ownFin _ _ _ _ _ (T111.setTop (mkF m 46 #[.val (.int p1), .val (.int p2), .val (.int x0), .val (.int x1), .val (.int x2), .val (.ref b0), .val (.ref b1), .unset, .unset] [(.ref b2), (.ref b2)]))
  refine ownVia (fun _ k => XS.iconst X111.here hx rfl (hb hby d11_46) k) ?_
  show ownFin _ _ _ _ _ (T111.setTop (mkF m 47 #[.val (.int p1), .val (.int p2), .val (.int x0), .val (.int x1), .val (.int x2), .val (.ref b0), .val (.ref b1), .unset, .unset] [(.int (0 : Int32)), (.ref b2), (.ref b2)]))
  refine ownVia (fun _ k => XS.iloadN X111.here hx rfl (hb hby d11_47) rfl k) ?_
  show ownFin _ _ _ _ _ (T111.setTop (mkF m 48 #[.val (.int p1), .val (.int p2), .val (.int x0), .val (.int x1), .val (.int x2), .val (.ref b0), .val (.ref b1), .unset, .unset] [(.int x0), (.int (0 : Int32)), (.ref b2), (.ref b2)]))
  refine ownCastore X111 hx hZ e111 A_b2 ⟨by decide, by decide⟩ (0) (by decide) (Nat.le_of_ble_eq_true rfl) N110 ge_b2 (hb hby d11_48) ?_
  intro T112 h112 L112 X112 e112 N112 W112 A_b2
  have A_b0 := A_b0.other W112 ne_b0_b2
  have E_b0 := E_b0.wr W112
  have A_b1 := A_b1.other W112 ne_b1_b2
  have E_b1 := E_b1.wr W112
  have E_b2 := E_b2.wr W112
  have K0 := K0.wr W112 (Or.inr sz_b2)
  have Z0 := own_szW Z0 W112
  have O := O.wr W112 ge_b2
  have A_b2 : Arv Z h112 b2 k_b2 .char (2 : Int32) [(.int (nar .char x0)), (.int (0 : Int32))] (.int (0 : Int32)) := A_b2
  show ownFin _ _ _ _ _ (T112.setTop (mkF m 49 #[.val (.int p1), .val (.int p2), .val (.int x0), .val (.int x1), .val (.int x2), .val (.ref b0), .val (.ref b1), .unset, .unset] [(.ref b2)]))
  refine ownVia (fun _ k => XS.dup X112.here hx rfl (hb hby d11_49) rfl rfl k) ?_
  show ownFin _ _ _ _ _ (T112.setTop (mkF m 50 #[.val (.int p1), .val (.int p2), .val (.int x0), .val (.int x1), .val (.int x2), .val (.ref b0), .val (.ref b1), .unset, .unset] [(.ref b2), (.ref b2)]))
  refine ownVia (fun _ k => XS.iconst X112.here hx rfl (hb hby d11_50) k) ?_
  show ownFin _ _ _ _ _ (T112.setTop (mkF m 51 #[.val (.int p1), .val (.int p2), .val (.int x0), .val (.int x1), .val (.int x2), .val (.ref b0), .val (.ref b1), .unset, .unset] [(.int (1 : Int32)), (.ref b2), (.ref b2)]))
  refine ownVia (fun _ k => XS.iloadN X112.here hx rfl (hb hby d11_51) rfl k) ?_
  show ownFin _ _ _ _ _ (T112.setTop (mkF m 52 #[.val (.int p1), .val (.int p2), .val (.int x0), .val (.int x1), .val (.int x2), .val (.ref b0), .val (.ref b1), .unset, .unset] [(.int x1), (.int (1 : Int32)), (.ref b2), (.ref b2)]))
  refine ownCastore X112 hx hZ e112 A_b2 ⟨by decide, by decide⟩ (1) (by decide) (Nat.le_of_ble_eq_true rfl) N112 ge_b2 (hb hby d11_52) ?_
  intro T113 h113 L113 X113 e113 N113 W113 A_b2
  have A_b0 := A_b0.other W113 ne_b0_b2
  have E_b0 := E_b0.wr W113
  have A_b1 := A_b1.other W113 ne_b1_b2
  have E_b1 := E_b1.wr W113
  have E_b2 := E_b2.wr W113
  have K0 := K0.wr W113 (Or.inr sz_b2)
  have Z0 := own_szW Z0 W113
  have O := O.wr W113 ge_b2
  have A_b2 : Arv Z h113 b2 k_b2 .char (2 : Int32) [(.int (nar .char x0)), (.int (nar .char x1))] (.int (0 : Int32)) := A_b2
  show ownFin _ _ _ _ _ (T113.setTop (mkF m 53 #[.val (.int p1), .val (.int p2), .val (.int x0), .val (.int x1), .val (.int x2), .val (.ref b0), .val (.ref b1), .unset, .unset] [(.ref b2)]))
  refine ownVia (fun _ k => XS.astore X113.here hx rfl (hb hby d11_53) rfl rfl (l' := #[.val (.int p1), .val (.int p2), .val (.int x0), .val (.int x1), .val (.int x2), .val (.ref b0), .val (.ref b1), .val (.ref b2), .unset]) rfl k) ?_
  show ownFin _ _ _ _ _ (T113.setTop (mkF m 55 #[.val (.int p1), .val (.int p2), .val (.int x0), .val (.int x1), .val (.int x2), .val (.ref b0), .val (.ref b1), .val (.ref b2), .unset] []))
  refine ownVia (fun _ k => XS.iconst X113.here hx rfl (hb hby d11_55) k) ?_
  show ownFin _ _ _ _ _ (T113.setTop (mkF m 56 #[.val (.int p1), .val (.int p2), .val (.int x0), .val (.int x1), .val (.int x2), .val (.ref b0), .val (.ref b1), .val (.ref b2), .unset] [(.int (3 : Int32))]))
  refine ownNewP X113 hx hZ (hw _ (List.mem_of_getElem? (i := 77) rfl)) e113 "[C" (by decide) (by decide) (3) (by decide) (3) (by decide) (by decide) (by decide) (by decide) (hb hby d11_56) ?_
  intro T114 h114 k_b3 b3 g114 X114 e114 E114 A_b3 E_b3
  have ne_b0_b3 : b0 ≠ b3 := Nat.ne_of_lt (Nat.lt_of_lt_of_le E_b0.lt (Nat.le_of_eq g114.symm))
  have ne_b1_b3 : b1 ≠ b3 := Nat.ne_of_lt (Nat.lt_of_lt_of_le E_b1.lt (Nat.le_of_eq g114.symm))
  have ne_b2_b3 : b2 ≠ b3 := Nat.ne_of_lt (Nat.lt_of_lt_of_le E_b2.lt (Nat.le_of_eq g114.symm))
  have ge_b3 : n0 ≤ b3 := Nat.le_trans Z0 (Nat.le_of_eq g114.symm)
  have sz_b3 : h0.size ≤ b3 := Nat.le_trans K0.1 (Nat.le_of_eq g114.symm)
  have A_b0 := A_b0.ext E114
  have E_b0 := E_b0.ext E114
  have A_b1 := A_b1.ext E114
  have E_b1 := E_b1.ext E114
  have A_b2 := A_b2.ext E114
  have E_b2 := E_b2.ext E114
  have K0 := K0.ext E114
  have O := O.ext E114
  have Z0 := own_sz Z0 E114
  have A_b3 : Arv Z h114 b3 k_b3 .char (3 : Int32) [(.int (0 : Int32)), (.int (0 : Int32)), (.int (0 : Int32))] (.int (0 : Int32)) := A_b3
  show ownFin _ _ _ _ _ (T114.setTop (mkF m 58 #[.val (.int p1), .val (.int p2), .val (.int x0), .val (.int x1), .val (.int x2), .val (.ref b0), .val (.ref b1), .val (.ref b2), .unset] [(.ref b3)]))
  refine ownVia (fun _ k => XS.dup X114.here hx rfl (hb hby d11_58) rfl rfl k) ?_
  show ownFin _ _ _ _ _ (T114.setTop (mkF m 59 #[.val (.int p1), .val (.int p2), .val (.int x0), .val (.int x1), .val (.int x2), .val (.ref b0), .val (.ref b1), .val (.ref b2), .unset] [(.ref b3), (.ref b3)]))
  refine ownVia (fun _ k => XS.iconst X114.here hx rfl (hb hby d11_59) k) ?_
  show ownFin _ _ _ _ _ (T114.setTop (mkF m 60 #[.val (.int p1), .val (.int p2), .val (.int x0), .val (.int x1), .val (.int x2), .val (.ref b0), .val (.ref b1), .val (.ref b2), .unset] [(.int (0 : Int32)), (.ref b3), (.ref b3)]))
  refine ownVia (fun _ k => XS.iloadN X114.here hx rfl (hb hby d11_60) rfl k) ?_
  show ownFin _ _ _ _ _ (T114.setTop (mkF m 61 #[.val (.int p1), .val (.int p2), .val (.int x0), .val (.int x1), .val (.int x2), .val (.ref b0), .val (.ref b1), .val (.ref b2), .unset] [(.int x0), (.int (0 : Int32)), (.ref b3), (.ref b3)]))
  refine ownCastore X114 hx hZ e114 A_b3 ⟨by decide, by decide⟩ (0) (by decide) (Nat.le_of_ble_eq_true rfl) N113 ge_b3 (hb hby d11_61) ?_
  intro T115 h115 L115 X115 e115 N115 W115 A_b3
  have A_b0 := A_b0.other W115 ne_b0_b3
  have E_b0 := E_b0.wr W115
  have A_b1 := A_b1.other W115 ne_b1_b3
  have E_b1 := E_b1.wr W115
  have A_b2 := A_b2.other W115 ne_b2_b3
  have E_b2 := E_b2.wr W115
  have E_b3 := E_b3.wr W115
  have K0 := K0.wr W115 (Or.inr sz_b3)
  have Z0 := own_szW Z0 W115
  have O := O.wr W115 ge_b3
  have A_b3 : Arv Z h115 b3 k_b3 .char (3 : Int32) [(.int (nar .char x0)), (.int (0 : Int32)), (.int (0 : Int32))] (.int (0 : Int32)) := A_b3
  show ownFin _ _ _ _ _ (T115.setTop (mkF m 62 #[.val (.int p1), .val (.int p2), .val (.int x0), .val (.int x1), .val (.int x2), .val (.ref b0), .val (.ref b1), .val (.ref b2), .unset] [(.ref b3)]))
  refine ownVia (fun _ k => XS.dup X115.here hx rfl (hb hby d11_62) rfl rfl k) ?_
  show ownFin _ _ _ _ _ (T115.setTop (mkF m 63 #[.val (.int p1), .val (.int p2), .val (.int x0), .val (.int x1), .val (.int x2), .val (.ref b0), .val (.ref b1), .val (.ref b2), .unset] [(.ref b3), (.ref b3)]))
  refine ownVia (fun _ k => XS.iconst X115.here hx rfl (hb hby d11_63) k) ?_
  show ownFin _ _ _ _ _ (T115.setTop (mkF m 64 #[.val (.int p1), .val (.int p2), .val (.int x0), .val (.int x1), .val (.int x2), .val (.ref b0), .val (.ref b1), .val (.ref b2), .unset] [(.int (1 : Int32)), (.ref b3), (.ref b3)]))
  refine ownVia (fun _ k => XS.iloadN X115.here hx rfl (hb hby d11_64) rfl k) ?_
  show ownFin _ _ _ _ _ (T115.setTop (mkF m 65 #[.val (.int p1), .val (.int p2), .val (.int x0), .val (.int x1), .val (.int x2), .val (.ref b0), .val (.ref b1), .val (.ref b2), .unset] [(.int x1), (.int (1 : Int32)), (.ref b3), (.ref b3)]))
  refine ownCastore X115 hx hZ e115 A_b3 ⟨by decide, by decide⟩ (1) (by decide) (Nat.le_of_ble_eq_true rfl) N115 ge_b3 (hb hby d11_65) ?_
  intro T116 h116 L116 X116 e116 N116 W116 A_b3
  have A_b0 := A_b0.other W116 ne_b0_b3
  have E_b0 := E_b0.wr W116
  have A_b1 := A_b1.other W116 ne_b1_b3
  have E_b1 := E_b1.wr W116
  have A_b2 := A_b2.other W116 ne_b2_b3
  have E_b2 := E_b2.wr W116
  have E_b3 := E_b3.wr W116
  have K0 := K0.wr W116 (Or.inr sz_b3)
  have Z0 := own_szW Z0 W116
  have O := O.wr W116 ge_b3
  have A_b3 : Arv Z h116 b3 k_b3 .char (3 : Int32) [(.int (nar .char x0)), (.int (nar .char x1)), (.int (0 : Int32))] (.int (0 : Int32)) := A_b3
  show ownFin _ _ _ _ _ (T116.setTop (mkF m 66 #[.val (.int p1), .val (.int p2), .val (.int x0), .val (.int x1), .val (.int x2), .val (.ref b0), .val (.ref b1), .val (.ref b2), .unset] [(.ref b3)]))
  refine ownVia (fun _ k => XS.dup X116.here hx rfl (hb hby d11_66) rfl rfl k) ?_
  show ownFin _ _ _ _ _ (T116.setTop (mkF m 67 #[.val (.int p1), .val (.int p2), .val (.int x0), .val (.int x1), .val (.int x2), .val (.ref b0), .val (.ref b1), .val (.ref b2), .unset] [(.ref b3), (.ref b3)]))
  refine ownVia (fun _ k => XS.iconst X116.here hx rfl (hb hby d11_67) k) ?_
  show ownFin _ _ _ _ _ (T116.setTop (mkF m 68 #[.val (.int p1), .val (.int p2), .val (.int x0), .val (.int x1), .val (.int x2), .val (.ref b0), .val (.ref b1), .val (.ref b2), .unset] [(.int (2 : Int32)), (.ref b3), (.ref b3)]))
  refine ownVia (fun _ k => XS.iload X116.here hx rfl (hb hby d11_68) rfl k) ?_
  show ownFin _ _ _ _ _ (T116.setTop (mkF m 70 #[.val (.int p1), .val (.int p2), .val (.int x0), .val (.int x1), .val (.int x2), .val (.ref b0), .val (.ref b1), .val (.ref b2), .unset] [(.int x2), (.int (2 : Int32)), (.ref b3), (.ref b3)]))
  refine ownCastore X116 hx hZ e116 A_b3 ⟨by decide, by decide⟩ (2) (by decide) (Nat.le_of_ble_eq_true rfl) N116 ge_b3 (hb hby d11_70) ?_
  intro T117 h117 L117 X117 e117 N117 W117 A_b3
  have A_b0 := A_b0.other W117 ne_b0_b3
  have E_b0 := E_b0.wr W117
  have A_b1 := A_b1.other W117 ne_b1_b3
  have E_b1 := E_b1.wr W117
  have A_b2 := A_b2.other W117 ne_b2_b3
  have E_b2 := E_b2.wr W117
  have E_b3 := E_b3.wr W117
  have K0 := K0.wr W117 (Or.inr sz_b3)
  have Z0 := own_szW Z0 W117
  have O := O.wr W117 ge_b3
  have A_b3 : Arv Z h117 b3 k_b3 .char (3 : Int32) [(.int (nar .char x0)), (.int (nar .char x1)), (.int (nar .char x2))] (.int (0 : Int32)) := A_b3
  show ownFin _ _ _ _ _ (T117.setTop (mkF m 71 #[.val (.int p1), .val (.int p2), .val (.int x0), .val (.int x1), .val (.int x2), .val (.ref b0), .val (.ref b1), .val (.ref b2), .unset] [(.ref b3)]))
  refine ownVia (fun _ k => XS.astore X117.here hx rfl (hb hby d11_71) rfl rfl (l' := #[.val (.int p1), .val (.int p2), .val (.int x0), .val (.int x1), .val (.int x2), .val (.ref b0), .val (.ref b1), .val (.ref b2), .val (.ref b3)]) rfl k) ?_
  show ownFin _ _ _ _ _ (T117.setTop (mkF m 73 #[.val (.int p1), .val (.int p2), .val (.int x0), .val (.int x1), .val (.int x2), .val (.ref b0), .val (.ref b1), .val (.ref b2), .val (.ref b3)] []))
  refine ownVia (fun _ k => XS.iloadN X117.here hx rfl (hb hby d11_73) rfl k) ?_
  show ownFin _ _ _ _ _ (T117.setTop (mkF m 74 #[.val (.int p1), .val (.int p2), .val (.int x0), .val (.int x1), .val (.int x2), .val (.ref b0), .val (.ref b1), .val (.ref b2), .val (.ref b3)] [(.int p1)]))
  by_cases hc118 : p1 = (0 : Int32)
  case pos =>
    have hc118I : p1.toInt = 0 := (own_eqi rfl (by decide)).mp hc118
    refine ownVia (fun _ k => XS.ifNo X117.here hx rfl (hb hby d11_74) rfl ((if0 _ _).trans (teq hc118).2) k) ?_
    show ownFin _ _ _ _ _ (T117.setTop (mkF m 77 #[.val (.int p1), .val (.int p2), .val (.int x0), .val (.int x1), .val (.int x2), .val (.ref b0), .val (.ref b1), .val (.ref b2), .val (.ref b3)] []))
    obtain ⟨T119, h119, X119, e119, E119, A119, D119, -, st119⟩ := newO X117 hx hZ hown (hw _ (List.mem_of_getElem? (i := 78) rfl)) (hw _ (List.mem_of_getElem? (i := 10) rfl)) (hw _ (List.mem_of_getElem? (i := 2) rfl)) e117 (g := (mkF m 77 #[.val (.int p1), .val (.int p2), .val (.int x0), .val (.int x1), .val (.int x2), .val (.ref b0), .val (.ref b1), .val (.ref b2), .val (.ref b3)] [])) rfl (hb hby d11_77) (by decide) (by decide)
    obtain ⟨b9, g119⟩ : ∃ z, z = h117.size := ⟨_, rfl⟩
    rw [← g119] at A119 D119 st119
    have ne_b0_b9 : b0 ≠ b9 := Nat.ne_of_lt (Nat.lt_of_lt_of_le E_b0.lt (Nat.le_of_eq g119.symm))
    have ne_b1_b9 : b1 ≠ b9 := Nat.ne_of_lt (Nat.lt_of_lt_of_le E_b1.lt (Nat.le_of_eq g119.symm))
    have ne_b2_b9 : b2 ≠ b9 := Nat.ne_of_lt (Nat.lt_of_lt_of_le E_b2.lt (Nat.le_of_eq g119.symm))
    have ne_b3_b9 : b3 ≠ b9 := Nat.ne_of_lt (Nat.lt_of_lt_of_le E_b3.lt (Nat.le_of_eq g119.symm))
    have ge_b9 : n0 ≤ b9 := Nat.le_trans Z0 (Nat.le_of_eq g119.symm)
    have sz_b9 : h0.size ≤ b9 := Nat.le_trans K0.1 (Nat.le_of_eq g119.symm)
    have A_b0 := A_b0.ext E119
    have E_b0 := E_b0.ext E119
    have A_b1 := A_b1.ext E119
    have E_b1 := E_b1.ext E119
    have A_b2 := A_b2.ext E119
    have E_b2 := E_b2.ext E119
    have A_b3 := A_b3.ext E119
    have E_b3 := E_b3.ext E119
    have K0 := K0.ext E119
    have O := O.ext E119
    have Z0 := own_sz Z0 E119
    have E_b9 := A119
    have F_b9_value : Fld Z h119 b9 "java/lang/String" "value" "[B" .null := D119 (Or.inr (hw _ (List.mem_of_getElem? (i := 23) rfl))) (ty := (.array .byte)) (by decide)
    have F_b9_coder : Fld Z h119 b9 "java/lang/String" "coder" "B" (.int (0 : Int32)) := D119 (Or.inr (hw _ (List.mem_of_getElem? (i := 25) rfl))) (ty := .byte) (by decide)
    refine ownVia st119 ?_
    show ownFin _ _ _ _ _ (T119.setTop (mkF m 80 #[.val (.int p1), .val (.int p2), .val (.int x0), .val (.int x1), .val (.int x2), .val (.ref b0), .val (.ref b1), .val (.ref b2), .val (.ref b3)] [(.ref b9)]))
    refine ownVia (fun _ k => XS.dup X119.here hx rfl (hb hby d11_80) rfl rfl k) ?_
    show ownFin _ _ _ _ _ (T119.setTop (mkF m 81 #[.val (.int p1), .val (.int p2), .val (.int x0), .val (.int x1), .val (.int x2), .val (.ref b0), .val (.ref b1), .val (.ref b2), .val (.ref b3)] [(.ref b9), (.ref b9)]))
    refine ownVia (fun _ k => XS.aload X119.here hx rfl (hb hby d11_81) rfl rfl k) ?_
    show ownFin _ _ _ _ _ (T119.setTop (mkF m 83 #[.val (.int p1), .val (.int p2), .val (.int x0), .val (.int x1), .val (.int x2), .val (.ref b0), .val (.ref b1), .val (.ref b2), .val (.ref b3)] [(.ref b0), (.ref b9), (.ref b9)]))
    have hch : ∀ x ∈ ([] : List Int32), 0 ≤ x.toInt ∧ x.toInt ≤ 255 := by
      intro x hxm
      simp only [List.mem_cons, List.not_mem_nil, or_false] at hxm
    refine ownCallNI X119 hx hZ hI hown rfl (hw _ (List.mem_of_getElem? (i := 79) rfl)) (hw _ (List.mem_of_getElem? (i := 80) rfl)) (hw _ (List.mem_of_getElem? (i := 2) rfl)) (hw _ (List.mem_of_getElem? (i := 81) rfl)) (by decide) e119 (own_s1 l Z a0 hw b9 b0 h119 n0 cs0 k_b0 (0 : Int32) ([] : List Int32) Z0 F_b9_value F_b9_coder E_b9 ge_b9 O S_c hcs hheld hcw A_b0 (by show (0 : Int32).toInt = ((0 : Nat) : Int); decide) (by show 0 ≤ 3; decide) hch (Ne.symm ne_b0_b9)) (by rw [hml]; rfl) b9 [(.ref b0)] [(.ref b9)] (lenOf own_pd9 rfl) rfl rfl 1 rfl (hb hby d11_83) (by decide) (by decide) (by decide) (by decide) ?_
    intro v120 T120 L120 X120 hq120 hZ hown hS hk
    obtain ⟨rfl, N120q, K120⟩ := hq120
    have K0 := K0.trans K120 (allS (Or.inr sz_b9) all0)
    have Z0 := Nat.le_trans Z0 K120.1
    have O := O.keep K120 (allS ge_b9 all0)
    have N120 := Fr.app N117 N120q
    show ownFin _ _ _ _ _ (T120.setTop (mkF m 86 #[.val (.int p1), .val (.int p2), .val (.int x0), .val (.int x1), .val (.int x2), .val (.ref b0), .val (.ref b1), .val (.ref b2), .val (.ref b3)] [(.ref b9)]))
    refine ownRetAW X120 hx hlk hS (by first | exact hk | (rw [show (0 : Nat) = 0 from rfl]; exact hk)) (ty := (.object "java/lang/String")) hret rfl (hb hby d11_86) (by decide) (by decide) ?_
    show (Q_own_drawn Z p1 p2 h0 n0 cs0) (some (.ref b9)) T120.heap _
    exact ⟨b9, rfl, N120, K0, sz_b9⟩
  case neg =>
    have hc118I : ¬ p1.toInt = 0 := fun q => hc118 ((own_eqi rfl (by decide)).mpr q)
    refine ownVia (fun _ k => XS.ifYes X117.here hx rfl (pc0 := 74) (pc' := 87) rfl (hb hby d11_74) rfl ((if0 _ _).trans (feq hc118).2) (by decide) (by decide) k) ?_
    show ownFin _ _ _ _ _ (T117.setTop (mkF m 87 #[.val (.int p1), .val (.int p2), .val (.int x0), .val (.int x1), .val (.int x2), .val (.ref b0), .val (.ref b1), .val (.ref b2), .val (.ref b3)] []))
    refine ownVia (fun _ k => XS.iloadN X117.here hx rfl (hb hby d11_87) rfl k) ?_
    show ownFin _ _ _ _ _ (T117.setTop (mkF m 88 #[.val (.int p1), .val (.int p2), .val (.int x0), .val (.int x1), .val (.int x2), .val (.ref b0), .val (.ref b1), .val (.ref b2), .val (.ref b3)] [(.int p1)]))
    refine ownVia (fun _ k => XS.iconst X117.here hx rfl (hb hby d11_88) k) ?_
    show ownFin _ _ _ _ _ (T117.setTop (mkF m 89 #[.val (.int p1), .val (.int p2), .val (.int x0), .val (.int x1), .val (.int x2), .val (.ref b0), .val (.ref b1), .val (.ref b2), .val (.ref b3)] [(.int (1 : Int32)), (.int p1)]))
    by_cases hc121 : p1 = (1 : Int32)
    case pos =>
      have hc121I : p1.toInt = 1 := (own_eqi rfl (by decide)).mp hc121
      refine ownVia (fun _ k => XS.icmpNo X117.here hx rfl (hb hby d11_89) rfl (teq hc121).2 k) ?_
      show ownFin _ _ _ _ _ (T117.setTop (mkF m 92 #[.val (.int p1), .val (.int p2), .val (.int x0), .val (.int x1), .val (.int x2), .val (.ref b0), .val (.ref b1), .val (.ref b2), .val (.ref b3)] []))
      obtain ⟨T122, h122, X122, e122, E122, A122, D122, -, st122⟩ := newO X117 hx hZ hown (hw _ (List.mem_of_getElem? (i := 78) rfl)) (hw _ (List.mem_of_getElem? (i := 10) rfl)) (hw _ (List.mem_of_getElem? (i := 2) rfl)) e117 (g := (mkF m 92 #[.val (.int p1), .val (.int p2), .val (.int x0), .val (.int x1), .val (.int x2), .val (.ref b0), .val (.ref b1), .val (.ref b2), .val (.ref b3)] [])) rfl (hb hby d11_92) (by decide) (by decide)
      obtain ⟨b9, g122⟩ : ∃ z, z = h117.size := ⟨_, rfl⟩
      rw [← g122] at A122 D122 st122
      have ne_b0_b9 : b0 ≠ b9 := Nat.ne_of_lt (Nat.lt_of_lt_of_le E_b0.lt (Nat.le_of_eq g122.symm))
      have ne_b1_b9 : b1 ≠ b9 := Nat.ne_of_lt (Nat.lt_of_lt_of_le E_b1.lt (Nat.le_of_eq g122.symm))
      have ne_b2_b9 : b2 ≠ b9 := Nat.ne_of_lt (Nat.lt_of_lt_of_le E_b2.lt (Nat.le_of_eq g122.symm))
      have ne_b3_b9 : b3 ≠ b9 := Nat.ne_of_lt (Nat.lt_of_lt_of_le E_b3.lt (Nat.le_of_eq g122.symm))
      have ge_b9 : n0 ≤ b9 := Nat.le_trans Z0 (Nat.le_of_eq g122.symm)
      have sz_b9 : h0.size ≤ b9 := Nat.le_trans K0.1 (Nat.le_of_eq g122.symm)
      have A_b0 := A_b0.ext E122
      have E_b0 := E_b0.ext E122
      have A_b1 := A_b1.ext E122
      have E_b1 := E_b1.ext E122
      have A_b2 := A_b2.ext E122
      have E_b2 := E_b2.ext E122
      have A_b3 := A_b3.ext E122
      have E_b3 := E_b3.ext E122
      have K0 := K0.ext E122
      have O := O.ext E122
      have Z0 := own_sz Z0 E122
      have E_b9 := A122
      have F_b9_value : Fld Z h122 b9 "java/lang/String" "value" "[B" .null := D122 (Or.inr (hw _ (List.mem_of_getElem? (i := 23) rfl))) (ty := (.array .byte)) (by decide)
      have F_b9_coder : Fld Z h122 b9 "java/lang/String" "coder" "B" (.int (0 : Int32)) := D122 (Or.inr (hw _ (List.mem_of_getElem? (i := 25) rfl))) (ty := .byte) (by decide)
      refine ownVia st122 ?_
      show ownFin _ _ _ _ _ (T122.setTop (mkF m 95 #[.val (.int p1), .val (.int p2), .val (.int x0), .val (.int x1), .val (.int x2), .val (.ref b0), .val (.ref b1), .val (.ref b2), .val (.ref b3)] [(.ref b9)]))
      refine ownVia (fun _ k => XS.dup X122.here hx rfl (hb hby d11_95) rfl rfl k) ?_
      show ownFin _ _ _ _ _ (T122.setTop (mkF m 96 #[.val (.int p1), .val (.int p2), .val (.int x0), .val (.int x1), .val (.int x2), .val (.ref b0), .val (.ref b1), .val (.ref b2), .val (.ref b3)] [(.ref b9), (.ref b9)]))
      refine ownVia (fun _ k => XS.aload X122.here hx rfl (hb hby d11_96) rfl rfl k) ?_
      show ownFin _ _ _ _ _ (T122.setTop (mkF m 98 #[.val (.int p1), .val (.int p2), .val (.int x0), .val (.int x1), .val (.int x2), .val (.ref b0), .val (.ref b1), .val (.ref b2), .val (.ref b3)] [(.ref b1), (.ref b9), (.ref b9)]))
      have hch : ∀ x ∈ ([(nar .char x0)] : List Int32), 0 ≤ x.toInt ∧ x.toInt ≤ 255 := by
        intro x hxm
        simp only [List.mem_cons, List.not_mem_nil, or_false] at hxm
        subst hxm; exact own_chn hx_x0
      refine ownCallNI X122 hx hZ hI hown rfl (hw _ (List.mem_of_getElem? (i := 79) rfl)) (hw _ (List.mem_of_getElem? (i := 80) rfl)) (hw _ (List.mem_of_getElem? (i := 2) rfl)) (hw _ (List.mem_of_getElem? (i := 81) rfl)) (by decide) e122 (own_s1 l Z a0 hw b9 b1 h122 n0 cs0 k_b1 (1 : Int32) ([(nar .char x0)] : List Int32) Z0 F_b9_value F_b9_coder E_b9 ge_b9 O S_c hcs hheld hcw A_b1 (by show (1 : Int32).toInt = ((1 : Nat) : Int); decide) (by show 1 ≤ 3; decide) hch (Ne.symm ne_b1_b9)) (by rw [hml]; rfl) b9 [(.ref b1)] [(.ref b9)] (lenOf own_pd9 rfl) rfl rfl 1 rfl (hb hby d11_98) (by decide) (by decide) (by decide) (by decide) ?_
      intro v123 T123 L123 X123 hq123 hZ hown hS hk
      obtain ⟨rfl, N123q, K123⟩ := hq123
      have K0 := K0.trans K123 (allS (Or.inr sz_b9) all0)
      have Z0 := Nat.le_trans Z0 K123.1
      have O := O.keep K123 (allS ge_b9 all0)
      have N123 := Fr.app N117 N123q
      show ownFin _ _ _ _ _ (T123.setTop (mkF m 101 #[.val (.int p1), .val (.int p2), .val (.int x0), .val (.int x1), .val (.int x2), .val (.ref b0), .val (.ref b1), .val (.ref b2), .val (.ref b3)] [(.ref b9)]))
      refine ownRetAW X123 hx hlk hS (by first | exact hk | (rw [show (0 : Nat) = 0 from rfl]; exact hk)) (ty := (.object "java/lang/String")) hret rfl (hb hby d11_101) (by decide) (by decide) ?_
      show (Q_own_drawn Z p1 p2 h0 n0 cs0) (some (.ref b9)) T123.heap _
      exact ⟨b9, rfl, N123, K0, sz_b9⟩
    case neg =>
      have hc121I : ¬ p1.toInt = 1 := fun q => hc121 ((own_eqi rfl (by decide)).mpr q)
      refine ownVia (fun _ k => XS.icmpYes X117.here hx rfl (pc0 := 89) (pc' := 102) rfl (hb hby d11_89) rfl (feq hc121).2 (by decide) (by decide) k) ?_
      show ownFin _ _ _ _ _ (T117.setTop (mkF m 102 #[.val (.int p1), .val (.int p2), .val (.int x0), .val (.int x1), .val (.int x2), .val (.ref b0), .val (.ref b1), .val (.ref b2), .val (.ref b3)] []))
      refine ownVia (fun _ k => XS.iloadN X117.here hx rfl (hb hby d11_102) rfl k) ?_
      show ownFin _ _ _ _ _ (T117.setTop (mkF m 103 #[.val (.int p1), .val (.int p2), .val (.int x0), .val (.int x1), .val (.int x2), .val (.ref b0), .val (.ref b1), .val (.ref b2), .val (.ref b3)] [(.int p1)]))
      refine ownVia (fun _ k => XS.iconst X117.here hx rfl (hb hby d11_103) k) ?_
      show ownFin _ _ _ _ _ (T117.setTop (mkF m 104 #[.val (.int p1), .val (.int p2), .val (.int x0), .val (.int x1), .val (.int x2), .val (.ref b0), .val (.ref b1), .val (.ref b2), .val (.ref b3)] [(.int (2 : Int32)), (.int p1)]))
      by_cases hc124 : p1 = (2 : Int32)
      case pos =>
        have hc124I : p1.toInt = 2 := (own_eqi rfl (by decide)).mp hc124
        refine ownVia (fun _ k => XS.icmpNo X117.here hx rfl (hb hby d11_104) rfl (teq hc124).2 k) ?_
        show ownFin _ _ _ _ _ (T117.setTop (mkF m 107 #[.val (.int p1), .val (.int p2), .val (.int x0), .val (.int x1), .val (.int x2), .val (.ref b0), .val (.ref b1), .val (.ref b2), .val (.ref b3)] []))
        obtain ⟨T125, h125, X125, e125, E125, A125, D125, -, st125⟩ := newO X117 hx hZ hown (hw _ (List.mem_of_getElem? (i := 78) rfl)) (hw _ (List.mem_of_getElem? (i := 10) rfl)) (hw _ (List.mem_of_getElem? (i := 2) rfl)) e117 (g := (mkF m 107 #[.val (.int p1), .val (.int p2), .val (.int x0), .val (.int x1), .val (.int x2), .val (.ref b0), .val (.ref b1), .val (.ref b2), .val (.ref b3)] [])) rfl (hb hby d11_107) (by decide) (by decide)
        obtain ⟨b9, g125⟩ : ∃ z, z = h117.size := ⟨_, rfl⟩
        rw [← g125] at A125 D125 st125
        have ne_b0_b9 : b0 ≠ b9 := Nat.ne_of_lt (Nat.lt_of_lt_of_le E_b0.lt (Nat.le_of_eq g125.symm))
        have ne_b1_b9 : b1 ≠ b9 := Nat.ne_of_lt (Nat.lt_of_lt_of_le E_b1.lt (Nat.le_of_eq g125.symm))
        have ne_b2_b9 : b2 ≠ b9 := Nat.ne_of_lt (Nat.lt_of_lt_of_le E_b2.lt (Nat.le_of_eq g125.symm))
        have ne_b3_b9 : b3 ≠ b9 := Nat.ne_of_lt (Nat.lt_of_lt_of_le E_b3.lt (Nat.le_of_eq g125.symm))
        have ge_b9 : n0 ≤ b9 := Nat.le_trans Z0 (Nat.le_of_eq g125.symm)
        have sz_b9 : h0.size ≤ b9 := Nat.le_trans K0.1 (Nat.le_of_eq g125.symm)
        have A_b0 := A_b0.ext E125
        have E_b0 := E_b0.ext E125
        have A_b1 := A_b1.ext E125
        have E_b1 := E_b1.ext E125
        have A_b2 := A_b2.ext E125
        have E_b2 := E_b2.ext E125
        have A_b3 := A_b3.ext E125
        have E_b3 := E_b3.ext E125
        have K0 := K0.ext E125
        have O := O.ext E125
        have Z0 := own_sz Z0 E125
        have E_b9 := A125
        have F_b9_value : Fld Z h125 b9 "java/lang/String" "value" "[B" .null := D125 (Or.inr (hw _ (List.mem_of_getElem? (i := 23) rfl))) (ty := (.array .byte)) (by decide)
        have F_b9_coder : Fld Z h125 b9 "java/lang/String" "coder" "B" (.int (0 : Int32)) := D125 (Or.inr (hw _ (List.mem_of_getElem? (i := 25) rfl))) (ty := .byte) (by decide)
        refine ownVia st125 ?_
        show ownFin _ _ _ _ _ (T125.setTop (mkF m 110 #[.val (.int p1), .val (.int p2), .val (.int x0), .val (.int x1), .val (.int x2), .val (.ref b0), .val (.ref b1), .val (.ref b2), .val (.ref b3)] [(.ref b9)]))
        refine ownVia (fun _ k => XS.dup X125.here hx rfl (hb hby d11_110) rfl rfl k) ?_
        show ownFin _ _ _ _ _ (T125.setTop (mkF m 111 #[.val (.int p1), .val (.int p2), .val (.int x0), .val (.int x1), .val (.int x2), .val (.ref b0), .val (.ref b1), .val (.ref b2), .val (.ref b3)] [(.ref b9), (.ref b9)]))
        refine ownVia (fun _ k => XS.aload X125.here hx rfl (hb hby d11_111) rfl rfl k) ?_
        show ownFin _ _ _ _ _ (T125.setTop (mkF m 113 #[.val (.int p1), .val (.int p2), .val (.int x0), .val (.int x1), .val (.int x2), .val (.ref b0), .val (.ref b1), .val (.ref b2), .val (.ref b3)] [(.ref b2), (.ref b9), (.ref b9)]))
        have hch : ∀ x ∈ ([(nar .char x0), (nar .char x1)] : List Int32), 0 ≤ x.toInt ∧ x.toInt ≤ 255 := by
          intro x hxm
          simp only [List.mem_cons, List.not_mem_nil, or_false] at hxm
          rcases hxm with rfl | rfl
          · exact own_chn hx_x0
          · exact own_chn hx_x1
        refine ownCallNI X125 hx hZ hI hown rfl (hw _ (List.mem_of_getElem? (i := 79) rfl)) (hw _ (List.mem_of_getElem? (i := 80) rfl)) (hw _ (List.mem_of_getElem? (i := 2) rfl)) (hw _ (List.mem_of_getElem? (i := 81) rfl)) (by decide) e125 (own_s1 l Z a0 hw b9 b2 h125 n0 cs0 k_b2 (2 : Int32) ([(nar .char x0), (nar .char x1)] : List Int32) Z0 F_b9_value F_b9_coder E_b9 ge_b9 O S_c hcs hheld hcw A_b2 (by show (2 : Int32).toInt = ((2 : Nat) : Int); decide) (by show 2 ≤ 3; decide) hch (Ne.symm ne_b2_b9)) (by rw [hml]; rfl) b9 [(.ref b2)] [(.ref b9)] (lenOf own_pd9 rfl) rfl rfl 1 rfl (hb hby d11_113) (by decide) (by decide) (by decide) (by decide) ?_
        intro v126 T126 L126 X126 hq126 hZ hown hS hk
        obtain ⟨rfl, N126q, K126⟩ := hq126
        have K0 := K0.trans K126 (allS (Or.inr sz_b9) all0)
        have Z0 := Nat.le_trans Z0 K126.1
        have O := O.keep K126 (allS ge_b9 all0)
        have N126 := Fr.app N117 N126q
        show ownFin _ _ _ _ _ (T126.setTop (mkF m 116 #[.val (.int p1), .val (.int p2), .val (.int x0), .val (.int x1), .val (.int x2), .val (.ref b0), .val (.ref b1), .val (.ref b2), .val (.ref b3)] [(.ref b9)]))
        refine ownRetAW X126 hx hlk hS (by first | exact hk | (rw [show (0 : Nat) = 0 from rfl]; exact hk)) (ty := (.object "java/lang/String")) hret rfl (hb hby d11_116) (by decide) (by decide) ?_
        show (Q_own_drawn Z p1 p2 h0 n0 cs0) (some (.ref b9)) T126.heap _
        exact ⟨b9, rfl, N126, K0, sz_b9⟩
      case neg =>
        have hc124I : ¬ p1.toInt = 2 := fun q => hc124 ((own_eqi rfl (by decide)).mpr q)
        refine ownVia (fun _ k => XS.icmpYes X117.here hx rfl (pc0 := 104) (pc' := 117) rfl (hb hby d11_104) rfl (feq hc124).2 (by decide) (by decide) k) ?_
        show ownFin _ _ _ _ _ (T117.setTop (mkF m 117 #[.val (.int p1), .val (.int p2), .val (.int x0), .val (.int x1), .val (.int x2), .val (.ref b0), .val (.ref b1), .val (.ref b2), .val (.ref b3)] []))
        obtain ⟨T127, h127, X127, e127, E127, A127, D127, -, st127⟩ := newO X117 hx hZ hown (hw _ (List.mem_of_getElem? (i := 78) rfl)) (hw _ (List.mem_of_getElem? (i := 10) rfl)) (hw _ (List.mem_of_getElem? (i := 2) rfl)) e117 (g := (mkF m 117 #[.val (.int p1), .val (.int p2), .val (.int x0), .val (.int x1), .val (.int x2), .val (.ref b0), .val (.ref b1), .val (.ref b2), .val (.ref b3)] [])) rfl (hb hby d11_117) (by decide) (by decide)
        obtain ⟨b9, g127⟩ : ∃ z, z = h117.size := ⟨_, rfl⟩
        rw [← g127] at A127 D127 st127
        have ne_b0_b9 : b0 ≠ b9 := Nat.ne_of_lt (Nat.lt_of_lt_of_le E_b0.lt (Nat.le_of_eq g127.symm))
        have ne_b1_b9 : b1 ≠ b9 := Nat.ne_of_lt (Nat.lt_of_lt_of_le E_b1.lt (Nat.le_of_eq g127.symm))
        have ne_b2_b9 : b2 ≠ b9 := Nat.ne_of_lt (Nat.lt_of_lt_of_le E_b2.lt (Nat.le_of_eq g127.symm))
        have ne_b3_b9 : b3 ≠ b9 := Nat.ne_of_lt (Nat.lt_of_lt_of_le E_b3.lt (Nat.le_of_eq g127.symm))
        have ge_b9 : n0 ≤ b9 := Nat.le_trans Z0 (Nat.le_of_eq g127.symm)
        have sz_b9 : h0.size ≤ b9 := Nat.le_trans K0.1 (Nat.le_of_eq g127.symm)
        have A_b0 := A_b0.ext E127
        have E_b0 := E_b0.ext E127
        have A_b1 := A_b1.ext E127
        have E_b1 := E_b1.ext E127
        have A_b2 := A_b2.ext E127
        have E_b2 := E_b2.ext E127
        have A_b3 := A_b3.ext E127
        have E_b3 := E_b3.ext E127
        have K0 := K0.ext E127
        have O := O.ext E127
        have Z0 := own_sz Z0 E127
        have E_b9 := A127
        have F_b9_value : Fld Z h127 b9 "java/lang/String" "value" "[B" .null := D127 (Or.inr (hw _ (List.mem_of_getElem? (i := 23) rfl))) (ty := (.array .byte)) (by decide)
        have F_b9_coder : Fld Z h127 b9 "java/lang/String" "coder" "B" (.int (0 : Int32)) := D127 (Or.inr (hw _ (List.mem_of_getElem? (i := 25) rfl))) (ty := .byte) (by decide)
        refine ownVia st127 ?_
        show ownFin _ _ _ _ _ (T127.setTop (mkF m 120 #[.val (.int p1), .val (.int p2), .val (.int x0), .val (.int x1), .val (.int x2), .val (.ref b0), .val (.ref b1), .val (.ref b2), .val (.ref b3)] [(.ref b9)]))
        refine ownVia (fun _ k => XS.dup X127.here hx rfl (hb hby d11_120) rfl rfl k) ?_
        show ownFin _ _ _ _ _ (T127.setTop (mkF m 121 #[.val (.int p1), .val (.int p2), .val (.int x0), .val (.int x1), .val (.int x2), .val (.ref b0), .val (.ref b1), .val (.ref b2), .val (.ref b3)] [(.ref b9), (.ref b9)]))
        refine ownVia (fun _ k => XS.aload X127.here hx rfl (hb hby d11_121) rfl rfl k) ?_
        show ownFin _ _ _ _ _ (T127.setTop (mkF m 123 #[.val (.int p1), .val (.int p2), .val (.int x0), .val (.int x1), .val (.int x2), .val (.ref b0), .val (.ref b1), .val (.ref b2), .val (.ref b3)] [(.ref b3), (.ref b9), (.ref b9)]))
        have hch : ∀ x ∈ ([(nar .char x0), (nar .char x1), (nar .char x2)] : List Int32), 0 ≤ x.toInt ∧ x.toInt ≤ 255 := by
          intro x hxm
          simp only [List.mem_cons, List.not_mem_nil, or_false] at hxm
          rcases hxm with rfl | rfl | rfl
          · exact own_chn hx_x0
          · exact own_chn hx_x1
          · exact own_chn hx_x2
        refine ownCallNI X127 hx hZ hI hown rfl (hw _ (List.mem_of_getElem? (i := 79) rfl)) (hw _ (List.mem_of_getElem? (i := 80) rfl)) (hw _ (List.mem_of_getElem? (i := 2) rfl)) (hw _ (List.mem_of_getElem? (i := 81) rfl)) (by decide) e127 (own_s1 l Z a0 hw b9 b3 h127 n0 cs0 k_b3 (3 : Int32) ([(nar .char x0), (nar .char x1), (nar .char x2)] : List Int32) Z0 F_b9_value F_b9_coder E_b9 ge_b9 O S_c hcs hheld hcw A_b3 (by show (3 : Int32).toInt = ((3 : Nat) : Int); decide) (by show 3 ≤ 3; decide) hch (Ne.symm ne_b3_b9)) (by rw [hml]; rfl) b9 [(.ref b3)] [(.ref b9)] (lenOf own_pd9 rfl) rfl rfl 1 rfl (hb hby d11_123) (by decide) (by decide) (by decide) (by decide) ?_
        intro v128 T128 L128 X128 hq128 hZ hown hS hk
        obtain ⟨rfl, N128q, K128⟩ := hq128
        have K0 := K0.trans K128 (allS (Or.inr sz_b9) all0)
        have Z0 := Nat.le_trans Z0 K128.1
        have O := O.keep K128 (allS ge_b9 all0)
        have N128 := Fr.app N117 N128q
        show ownFin _ _ _ _ _ (T128.setTop (mkF m 126 #[.val (.int p1), .val (.int p2), .val (.int x0), .val (.int x1), .val (.int x2), .val (.ref b0), .val (.ref b1), .val (.ref b2), .val (.ref b3)] [(.ref b9)]))
        refine ownRetAW X128 hx hlk hS (by first | exact hk | (rw [show (0 : Nat) = 0 from rfl]; exact hk)) (ty := (.object "java/lang/String")) hret rfl (hb hby d11_126) (by decide) (by decide) ?_
        show (Q_own_drawn Z p1 p2 h0 n0 cs0) (some (.ref b9)) T128.heap _
        exact ⟨b9, rfl, N128, K0, sz_b9⟩
theorem own_ef129 (m : MethodId) (p1 : Int32) (p2 : Int32) (p3 : Int32) (q1 : Int64) (q2 : Int64) (q3 : Int64) : entryFrame m #[(.int p1), (.int p2), (.int p3), (.long q1), (.long q2), (.long q3)] maxLocals = mkF m 0 #[.val (.int p1), .val (.int p2), .val (.int p3), .val (.long q1), .second, .val (.long q2), .second, .val (.long q3), .second, .unset, .unset, .unset, .unset, .unset, .unset, .unset, .unset, .unset, .unset, .unset, .unset, .unset, .unset, .unset] [] := by first | (simp [entryFrame, mkF, argsToLocals, Value.category, maxLocals]; done) | rfl
def Q_own_law (Z : State) (p1 : Int32) (p2 : Int32) (p3 : Int32) (q1 : Int64) (q2 : Int64) (q3 : Int64) (h0 : Heap) (n0 : Nat) (cs0 : Int32) : Option Value → Heap → List Loc → Prop := fun v h L => v = some (.int 1) ∧ Fr n0 L
theorem own_pd10 : parseMethodDescriptor "(C)Ljava/lang/String;" = some ⟨[.char], some (.object "java/lang/String")⟩ := by decide +kernel
theorem own_pd11 : parseMethodDescriptor "(I)Lcom/example/tillbridge/tillbridge/channel/Bill$Standing;" = some ⟨[.int], some (.object "com/example/tillbridge/tillbridge/channel/Bill$Standing")⟩ := by decide +kernel
theorem own_pd12 : parseMethodDescriptor "(Ljava/lang/String;Ljava/lang/String;Ljava/lang/String;Lcom/example/tillbridge/tillbridge/channel/Bill$Standing;JJJ)V" = some ⟨[(.object "java/lang/String"), (.object "java/lang/String"), (.object "java/lang/String"), (.object "com/example/tillbridge/tillbridge/channel/Bill$Standing"), .long, .long, .long], none⟩ := by decide +kernel
theorem own_pd13 : parseMethodDescriptor "()Z" = some ⟨[], some .boolean⟩ := by decide +kernel
theorem own_pd14 : parseMethodDescriptor "(II)Ljava/lang/String;" = some ⟨[.int, .int], some (.object "java/lang/String")⟩ := by decide +kernel
set_option maxRecDepth 65536 in
set_option maxHeartbeats 40000000 in
theorem own_law (l : Launch) (Z : State) (a0 : Array Value) (hw : ∀ d ∈ tables_1, d.before a0 Z = true) (ws : List Jvm.Cond) (p1 : Int32) (p2 : Int32) (p3 : Int32) (q1 : Int64) (q2 : Int64) (q3 : Int64) (h0 : Heap) (n0 : Nat) (cs0 : Int32) (Z0 : n0 ≤ h0.size) (O : Old Z n0 h0) (S_c : Sta Z Z.heap "java/lang/String" "COMPACT_STRINGS" "Z" (.int cs0)) (hcs : ¬ cs0 = (0 : Int32)) (hheld : Jvm.Lit.constHeld Z "java/lang/String" 7) (hcw : Jvm.Lit.compactW.before a0 Z = true) (k0 : ∃ a, Sta Z Z.heap "com/example/tillbridge/tillbridge/channel/Bill$Standing" "PAID" "Lcom/example/tillbridge/tillbridge/channel/Bill$Standing;" (.ref a)) (k1 : ∃ a, Sta Z Z.heap "com/example/tillbridge/tillbridge/channel/Bill$Standing" "REVERSED" "Lcom/example/tillbridge/tillbridge/channel/Bill$Standing;" (.ref a)) (k2 : ∃ a, Sta Z Z.heap "com/example/tillbridge/tillbridge/channel/Bill$Standing" "REFUNDING" "Lcom/example/tillbridge/tillbridge/channel/Bill$Standing;" (.ref a)) (k3 : ∃ a, Sta Z Z.heap "com/example/tillbridge/tillbridge/channel/Bill$Standing" "REFUNDED" "Lcom/example/tillbridge/tillbridge/channel/Bill$Standing;" (.ref a)) (k4 : ∃ a, Sta Z Z.heap "com/example/tillbridge/tillbridge/channel/Bill$Standing" "REFUND_FAILED" "Lcom/example/tillbridge/tillbridge/channel/Bill$Standing;" (.ref a)) (k5 : ∃ a, Sta Z Z.heap "com/example/tillbridge/tillbridge/channel/Bill$Standing" "REFUND_MANUAL" "Lcom/example/tillbridge/tillbridge/channel/Bill$Standing;" (.ref a)) (k6 : ∃ a, Sta Z Z.heap "com/example/tillbridge/tillbridge/channel/Bill$Standing" "OTHER" "Lcom/example/tillbridge/tillbridge/channel/Bill$Standing;" (.ref a)) :
    ownMetI l Z x code maxLocals ret ws room_1 #[(.int p1), (.int p2), (.int p3), (.long q1), (.long q2), (.long q3)] h0 (Q_own_law Z p1 p2 p3 q1 q2 q3 h0 n0 cs0) := by
  refine ownBodyI (plainFor_of_name own_pn2) ?_
  intro p e s m below meth c T0 hx hby hml hret hlk hZ hown hnm X0 e0 hh0 hI
  have N0 : Fr n0 [] := Fr.nil n0
  have hown : s.vm.findClass "com/example/tillbridge/tillbridge/channel/LineIsRefundPinLaw" = some m.cls := hown
  refine ownVia (fun _ k => castTop (own_ef129 m p1 p2 p3 q1 q2 q3) k) ?_
  show ownFin _ _ _ _ _ (T0.setTop (mkF m 0 #[.val (.int p1), .val (.int p2), .val (.int p3), .val (.long q1), .second, .val (.long q2), .second, .val (.long q3), .second, .unset, .unset, .unset, .unset, .unset, .unset, .unset, .unset, .unset, .unset, .unset, .unset, .unset, .unset, .unset] []))
  have hln := own_len4 p1
  refine ownVia (fun _ k => XS.iloadN X0.here hx rfl (hb hby at_0) rfl k) ?_
  show ownFin _ _ _ _ _ (T0.setTop (mkF m 1 #[.val (.int p1), .val (.int p2), .val (.int p3), .val (.long q1), .second, .val (.long q2), .second, .val (.long q3), .second, .unset, .unset, .unset, .unset, .unset, .unset, .unset, .unset, .unset, .unset, .unset, .unset, .unset, .unset, .unset] [(.int p1)]))
  refine ownVia (fun _ k => XS.iconst X0.here hx rfl (hb hby at_1) k) ?_
  show ownFin _ _ _ _ _ (T0.setTop (mkF m 2 #[.val (.int p1), .val (.int p2), .val (.int p3), .val (.long q1), .second, .val (.long q2), .second, .val (.long q3), .second, .unset, .unset, .unset, .unset, .unset, .unset, .unset, .unset, .unset, .unset, .unset, .unset, .unset, .unset, .unset] [(.int (1 : Int32)), (.int p1)]))
  refine ownVia (fun _ k => XS.iand X0.here hx rfl (hb hby at_2) rfl k) ?_
  show ownFin _ _ _ _ _ (T0.setTop (mkF m 3 #[.val (.int p1), .val (.int p2), .val (.int p3), .val (.long q1), .second, .val (.long q2), .second, .val (.long q3), .second, .unset, .unset, .unset, .unset, .unset, .unset, .unset, .unset, .unset, .unset, .unset, .unset, .unset, .unset, .unset] [(.int (p1 &&& (1 : Int32)))]))
  by_cases hc130 : (p1 &&& (1 : Int32)) = (0 : Int32)
  case pos =>
    have hc130I : (p1 &&& (1 : Int32)).toInt = 0 := (own_eqi rfl (by decide)).mp hc130
    refine ownVia (fun _ k => XS.ifYes X0.here hx rfl (pc0 := 3) (pc' := 10) rfl (hb hby at_3) rfl ((if0 _ _).trans (teq hc130).1) (by decide) (by decide) k) ?_
    show ownFin _ _ _ _ _ (T0.setTop (mkF m 10 #[.val (.int p1), .val (.int p2), .val (.int p3), .val (.long q1), .second, .val (.long q2), .second, .val (.long q3), .second, .unset, .unset, .unset, .unset, .unset, .unset, .unset, .unset, .unset, .unset, .unset, .unset, .unset, .unset, .unset] []))
    refine ownVia (fun _ k => XS.iconst X0.here hx rfl (hb hby at_10) k) ?_
    show ownFin _ _ _ _ _ (T0.setTop (mkF m 11 #[.val (.int p1), .val (.int p2), .val (.int p3), .val (.long q1), .second, .val (.long q2), .second, .val (.long q3), .second, .unset, .unset, .unset, .unset, .unset, .unset, .unset, .unset, .unset, .unset, .unset, .unset, .unset, .unset, .unset] [(.int (0 : Int32))]))
    refine ownVia (fun _ k => XS.istore X0.here hx rfl (hb hby at_11) rfl (l' := #[.val (.int p1), .val (.int p2), .val (.int p3), .val (.long q1), .second, .val (.long q2), .second, .val (.long q3), .second, .val (.int (0 : Int32)), .unset, .unset, .unset, .unset, .unset, .unset, .unset, .unset, .unset, .unset, .unset, .unset, .unset, .unset]) rfl k) ?_
    show ownFin _ _ _ _ _ (T0.setTop (mkF m 13 #[.val (.int p1), .val (.int p2), .val (.int p3), .val (.long q1), .second, .val (.long q2), .second, .val (.long q3), .second, .val (.int (0 : Int32)), .unset, .unset, .unset, .unset, .unset, .unset, .unset, .unset, .unset, .unset, .unset, .unset, .unset, .unset] []))
    refine ownVia (fun _ k => XS.iloadN X0.here hx rfl (hb hby at_13) rfl k) ?_
    show ownFin _ _ _ _ _ (T0.setTop (mkF m 14 #[.val (.int p1), .val (.int p2), .val (.int p3), .val (.long q1), .second, .val (.long q2), .second, .val (.long q3), .second, .val (.int (0 : Int32)), .unset, .unset, .unset, .unset, .unset, .unset, .unset, .unset, .unset, .unset, .unset, .unset, .unset, .unset] [(.int p1)]))
    refine ownVia (fun _ k => XS.iconst X0.here hx rfl (hb hby at_14) k) ?_
    show ownFin _ _ _ _ _ (T0.setTop (mkF m 15 #[.val (.int p1), .val (.int p2), .val (.int p3), .val (.long q1), .second, .val (.long q2), .second, .val (.long q3), .second, .val (.int (0 : Int32)), .unset, .unset, .unset, .unset, .unset, .unset, .unset, .unset, .unset, .unset, .unset, .unset, .unset, .unset] [(.int (1 : Int32)), (.int p1)]))
    refine ownVia (fun _ k => XS.iushr X0.here hx rfl (hb hby at_15) rfl k) ?_
    show ownFin _ _ _ _ _ (T0.setTop (mkF m 16 #[.val (.int p1), .val (.int p2), .val (.int p3), .val (.long q1), .second, .val (.long q2), .second, .val (.long q3), .second, .val (.int (0 : Int32)), .unset, .unset, .unset, .unset, .unset, .unset, .unset, .unset, .unset, .unset, .unset, .unset, .unset, .unset] [(.int ((p1.toUInt32 >>> ((1 : Int32) &&& 31).toUInt32).toInt32))]))
    refine ownVia (fun _ k => XS.iconst X0.here hx rfl (hb hby at_16) k) ?_
    show ownFin _ _ _ _ _ (T0.setTop (mkF m 17 #[.val (.int p1), .val (.int p2), .val (.int p3), .val (.long q1), .second, .val (.long q2), .second, .val (.long q3), .second, .val (.int (0 : Int32)), .unset, .unset, .unset, .unset, .unset, .unset, .unset, .unset, .unset, .unset, .unset, .unset, .unset, .unset] [(.int (3 : Int32)), (.int ((p1.toUInt32 >>> ((1 : Int32) &&& 31).toUInt32).toInt32))]))
    refine ownVia (fun _ k => XS.iand X0.here hx rfl (hb hby at_17) rfl k) ?_
    show ownFin _ _ _ _ _ (T0.setTop (mkF m 18 #[.val (.int p1), .val (.int p2), .val (.int p3), .val (.long q1), .second, .val (.long q2), .second, .val (.long q3), .second, .val (.int (0 : Int32)), .unset, .unset, .unset, .unset, .unset, .unset, .unset, .unset, .unset, .unset, .unset, .unset, .unset, .unset] [(.int (((p1.toUInt32 >>> ((1 : Int32) &&& 31).toUInt32).toInt32) &&& (3 : Int32)))]))
    refine ownVia (fun _ k => XS.istore X0.here hx rfl (hb hby at_18) rfl (l' := #[.val (.int p1), .val (.int p2), .val (.int p3), .val (.long q1), .second, .val (.long q2), .second, .val (.long q3), .second, .val (.int (0 : Int32)), .val (.int (((p1.toUInt32 >>> ((1 : Int32) &&& 31).toUInt32).toInt32) &&& (3 : Int32))), .unset, .unset, .unset, .unset, .unset, .unset, .unset, .unset, .unset, .unset, .unset, .unset, .unset]) rfl k) ?_
    show ownFin _ _ _ _ _ (T0.setTop (mkF m 20 #[.val (.int p1), .val (.int p2), .val (.int p3), .val (.long q1), .second, .val (.long q2), .second, .val (.long q3), .second, .val (.int (0 : Int32)), .val (.int (((p1.toUInt32 >>> ((1 : Int32) &&& 31).toUInt32).toInt32) &&& (3 : Int32))), .unset, .unset, .unset, .unset, .unset, .unset, .unset, .unset, .unset, .unset, .unset, .unset, .unset] []))
    refine ownVia (fun _ k => XS.iload X0.here hx rfl (hb hby at_20) rfl k) ?_
    show ownFin _ _ _ _ _ (T0.setTop (mkF m 22 #[.val (.int p1), .val (.int p2), .val (.int p3), .val (.long q1), .second, .val (.long q2), .second, .val (.long q3), .second, .val (.int (0 : Int32)), .val (.int (((p1.toUInt32 >>> ((1 : Int32) &&& 31).toUInt32).toInt32) &&& (3 : Int32))), .unset, .unset, .unset, .unset, .unset, .unset, .unset, .unset, .unset, .unset, .unset, .unset, .unset] [(.int (0 : Int32))]))
    have X0 : Stand p l e room_1 (s.setVm s.vm) m #[(.int p1), (.int p2), (.int p3), (.long q1), (.long q2), (.long q3)] below meth c T0 [] 0 0 := X0
    have hS : s.Since s.vm h0.size := (State.WarmedH.refl s).since _
    have hk : h0.size ≤ h0.size := Nat.le_refl _
    refine ownVia (fun _ k => XS.ifYes X0.here hx rfl (pc0 := 22) (pc' := 34) rfl (hb hby at_22) rfl ((if0 _ _).trans (teq rfl).1) (by decide) (by decide) k) ?_
    show ownFin _ _ _ _ _ (T0.setTop (mkF m 34 #[.val (.int p1), .val (.int p2), .val (.int p3), .val (.long q1), .second, .val (.long q2), .second, .val (.long q3), .second, .val (.int (0 : Int32)), .val (.int (((p1.toUInt32 >>> ((1 : Int32) &&& 31).toUInt32).toInt32) &&& (3 : Int32))), .unset, .unset, .unset, .unset, .unset, .unset, .unset, .unset, .unset, .unset, .unset, .unset, .unset] []))
    refine ownVia (fun _ k => XS.aconstNull X0.here hx rfl (hb hby at_34) k) ?_
    show ownFin _ _ _ _ _ (T0.setTop (mkF m 35 #[.val (.int p1), .val (.int p2), .val (.int p3), .val (.long q1), .second, .val (.long q2), .second, .val (.long q3), .second, .val (.int (0 : Int32)), .val (.int (((p1.toUInt32 >>> ((1 : Int32) &&& 31).toUInt32).toInt32) &&& (3 : Int32))), .unset, .unset, .unset, .unset, .unset, .unset, .unset, .unset, .unset, .unset, .unset, .unset, .unset] [.null]))
    refine ownVia (fun _ k => XS.astore X0.here hx rfl (hb hby at_35) rfl rfl (l' := #[.val (.int p1), .val (.int p2), .val (.int p3), .val (.long q1), .second, .val (.long q2), .second, .val (.long q3), .second, .val (.int (0 : Int32)), .val (.int (((p1.toUInt32 >>> ((1 : Int32) &&& 31).toUInt32).toInt32) &&& (3 : Int32))), .val .null, .unset, .unset, .unset, .unset, .unset, .unset, .unset, .unset, .unset, .unset, .unset, .unset]) rfl k) ?_
    show ownFin _ _ _ _ _ (T0.setTop (mkF m 37 #[.val (.int p1), .val (.int p2), .val (.int p3), .val (.long q1), .second, .val (.long q2), .second, .val (.long q3), .second, .val (.int (0 : Int32)), .val (.int (((p1.toUInt32 >>> ((1 : Int32) &&& 31).toUInt32).toInt32) &&& (3 : Int32))), .val .null, .unset, .unset, .unset, .unset, .unset, .unset, .unset, .unset, .unset, .unset, .unset, .unset] []))
    refine ownVia (fun _ k => XS.iloadN X0.here hx rfl (hb hby at_37) rfl k) ?_
    show ownFin _ _ _ _ _ (T0.setTop (mkF m 38 #[.val (.int p1), .val (.int p2), .val (.int p3), .val (.long q1), .second, .val (.long q2), .second, .val (.long q3), .second, .val (.int (0 : Int32)), .val (.int (((p1.toUInt32 >>> ((1 : Int32) &&& 31).toUInt32).toInt32) &&& (3 : Int32))), .val .null, .unset, .unset, .unset, .unset, .unset, .unset, .unset, .unset, .unset, .unset, .unset, .unset] [(.int p1)]))
    refine ownVia (fun _ k => XS.iconst X0.here hx rfl (hb hby at_38) k) ?_
    show ownFin _ _ _ _ _ (T0.setTop (mkF m 39 #[.val (.int p1), .val (.int p2), .val (.int p3), .val (.long q1), .second, .val (.long q2), .second, .val (.long q3), .second, .val (.int (0 : Int32)), .val (.int (((p1.toUInt32 >>> ((1 : Int32) &&& 31).toUInt32).toInt32) &&& (3 : Int32))), .val .null, .unset, .unset, .unset, .unset, .unset, .unset, .unset, .unset, .unset, .unset, .unset, .unset] [(.int (3 : Int32)), (.int p1)]))
    refine ownVia (fun _ k => XS.iushr X0.here hx rfl (hb hby at_39) rfl k) ?_
    show ownFin _ _ _ _ _ (T0.setTop (mkF m 40 #[.val (.int p1), .val (.int p2), .val (.int p3), .val (.long q1), .second, .val (.long q2), .second, .val (.long q3), .second, .val (.int (0 : Int32)), .val (.int (((p1.toUInt32 >>> ((1 : Int32) &&& 31).toUInt32).toInt32) &&& (3 : Int32))), .val .null, .unset, .unset, .unset, .unset, .unset, .unset, .unset, .unset, .unset, .unset, .unset, .unset] [(.int ((p1.toUInt32 >>> ((3 : Int32) &&& 31).toUInt32).toInt32))]))
    refine ownVia (fun _ k => XS.iconst X0.here hx rfl (hb hby at_40) k) ?_
    show ownFin _ _ _ _ _ (T0.setTop (mkF m 41 #[.val (.int p1), .val (.int p2), .val (.int p3), .val (.long q1), .second, .val (.long q2), .second, .val (.long q3), .second, .val (.int (0 : Int32)), .val (.int (((p1.toUInt32 >>> ((1 : Int32) &&& 31).toUInt32).toInt32) &&& (3 : Int32))), .val .null, .unset, .unset, .unset, .unset, .unset, .unset, .unset, .unset, .unset, .unset, .unset, .unset] [(.int (1 : Int32)), (.int ((p1.toUInt32 >>> ((3 : Int32) &&& 31).toUInt32).toInt32))]))
    refine ownVia (fun _ k => XS.iand X0.here hx rfl (hb hby at_41) rfl k) ?_
    show ownFin _ _ _ _ _ (T0.setTop (mkF m 42 #[.val (.int p1), .val (.int p2), .val (.int p3), .val (.long q1), .second, .val (.long q2), .second, .val (.long q3), .second, .val (.int (0 : Int32)), .val (.int (((p1.toUInt32 >>> ((1 : Int32) &&& 31).toUInt32).toInt32) &&& (3 : Int32))), .val .null, .unset, .unset, .unset, .unset, .unset, .unset, .unset, .unset, .unset, .unset, .unset, .unset] [(.int (((p1.toUInt32 >>> ((3 : Int32) &&& 31).toUInt32).toInt32) &&& (1 : Int32)))]))
    by_cases hc131 : (((p1.toUInt32 >>> ((3 : Int32) &&& 31).toUInt32).toInt32) &&& (1 : Int32)) = (0 : Int32)
    case pos =>
      have hc131I : (((p1.toUInt32 >>> ((3 : Int32) &&& 31).toUInt32).toInt32) &&& (1 : Int32)).toInt = 0 := (own_eqi rfl (by decide)).mp hc131
      refine ownVia (fun _ k => XS.ifYes X0.here hx rfl (pc0 := 42) (pc' := 49) rfl (hb hby at_42) rfl ((if0 _ _).trans (teq hc131).1) (by decide) (by decide) k) ?_
      show ownFin _ _ _ _ _ (T0.setTop (mkF m 49 #[.val (.int p1), .val (.int p2), .val (.int p3), .val (.long q1), .second, .val (.long q2), .second, .val (.long q3), .second, .val (.int (0 : Int32)), .val (.int (((p1.toUInt32 >>> ((1 : Int32) &&& 31).toUInt32).toInt32) &&& (3 : Int32))), .val .null, .unset, .unset, .unset, .unset, .unset, .unset, .unset, .unset, .unset, .unset, .unset, .unset] []))
      refine ownVia (fun _ k => XS.iconst X0.here hx rfl (hb hby at_49) k) ?_
      show ownFin _ _ _ _ _ (T0.setTop (mkF m 50 #[.val (.int p1), .val (.int p2), .val (.int p3), .val (.long q1), .second, .val (.long q2), .second, .val (.long q3), .second, .val (.int (0 : Int32)), .val (.int (((p1.toUInt32 >>> ((1 : Int32) &&& 31).toUInt32).toInt32) &&& (3 : Int32))), .val .null, .unset, .unset, .unset, .unset, .unset, .unset, .unset, .unset, .unset, .unset, .unset, .unset] [(.int (0 : Int32))]))
      refine ownVia (fun _ k => XS.istore X0.here hx rfl (hb hby at_50) rfl (l' := #[.val (.int p1), .val (.int p2), .val (.int p3), .val (.long q1), .second, .val (.long q2), .second, .val (.long q3), .second, .val (.int (0 : Int32)), .val (.int (((p1.toUInt32 >>> ((1 : Int32) &&& 31).toUInt32).toInt32) &&& (3 : Int32))), .val .null, .val (.int (0 : Int32)), .unset, .unset, .unset, .unset, .unset, .unset, .unset, .unset, .unset, .unset, .unset]) rfl k) ?_
      show ownFin _ _ _ _ _ (T0.setTop (mkF m 52 #[.val (.int p1), .val (.int p2), .val (.int p3), .val (.long q1), .second, .val (.long q2), .second, .val (.long q3), .second, .val (.int (0 : Int32)), .val (.int (((p1.toUInt32 >>> ((1 : Int32) &&& 31).toUInt32).toInt32) &&& (3 : Int32))), .val .null, .val (.int (0 : Int32)), .unset, .unset, .unset, .unset, .unset, .unset, .unset, .unset, .unset, .unset, .unset] []))
      refine ownVia (fun _ k => XS.iload X0.here hx rfl (hb hby at_52) rfl k) ?_
      show ownFin _ _ _ _ _ (T0.setTop (mkF m 54 #[.val (.int p1), .val (.int p2), .val (.int p3), .val (.long q1), .second, .val (.long q2), .second, .val (.long q3), .second, .val (.int (0 : Int32)), .val (.int (((p1.toUInt32 >>> ((1 : Int32) &&& 31).toUInt32).toInt32) &&& (3 : Int32))), .val .null, .val (.int (0 : Int32)), .unset, .unset, .unset, .unset, .unset, .unset, .unset, .unset, .unset, .unset, .unset] [(.int (0 : Int32))]))
      refine ownVia (fun _ k => XS.ifYes X0.here hx rfl (pc0 := 54) (pc' := 71) rfl (hb hby at_54) rfl ((if0 _ _).trans (teq rfl).1) (by decide) (by decide) k) ?_
      show ownFin _ _ _ _ _ (T0.setTop (mkF m 71 #[.val (.int p1), .val (.int p2), .val (.int p3), .val (.long q1), .second, .val (.long q2), .second, .val (.long q3), .second, .val (.int (0 : Int32)), .val (.int (((p1.toUInt32 >>> ((1 : Int32) &&& 31).toUInt32).toInt32) &&& (3 : Int32))), .val .null, .val (.int (0 : Int32)), .unset, .unset, .unset, .unset, .unset, .unset, .unset, .unset, .unset, .unset, .unset] []))
      refine ownVia (fun _ k => XS.aconstNull X0.here hx rfl (hb hby at_71) k) ?_
      show ownFin _ _ _ _ _ (T0.setTop (mkF m 72 #[.val (.int p1), .val (.int p2), .val (.int p3), .val (.long q1), .second, .val (.long q2), .second, .val (.long q3), .second, .val (.int (0 : Int32)), .val (.int (((p1.toUInt32 >>> ((1 : Int32) &&& 31).toUInt32).toInt32) &&& (3 : Int32))), .val .null, .val (.int (0 : Int32)), .unset, .unset, .unset, .unset, .unset, .unset, .unset, .unset, .unset, .unset, .unset] [.null]))
      refine ownVia (fun _ k => XS.astore X0.here hx rfl (hb hby at_72) rfl rfl (l' := #[.val (.int p1), .val (.int p2), .val (.int p3), .val (.long q1), .second, .val (.long q2), .second, .val (.long q3), .second, .val (.int (0 : Int32)), .val (.int (((p1.toUInt32 >>> ((1 : Int32) &&& 31).toUInt32).toInt32) &&& (3 : Int32))), .val .null, .val (.int (0 : Int32)), .val .null, .unset, .unset, .unset, .unset, .unset, .unset, .unset, .unset, .unset, .unset]) rfl k) ?_
      show ownFin _ _ _ _ _ (T0.setTop (mkF m 74 #[.val (.int p1), .val (.int p2), .val (.int p3), .val (.long q1), .second, .val (.long q2), .second, .val (.long q3), .second, .val (.int (0 : Int32)), .val (.int (((p1.toUInt32 >>> ((1 : Int32) &&& 31).toUInt32).toInt32) &&& (3 : Int32))), .val .null, .val (.int (0 : Int32)), .val .null, .unset, .unset, .unset, .unset, .unset, .unset, .unset, .unset, .unset, .unset] []))
      refine ownVia (fun _ k => XS.iloadN X0.here hx rfl (hb hby at_74) rfl k) ?_
      show ownFin _ _ _ _ _ (T0.setTop (mkF m 75 #[.val (.int p1), .val (.int p2), .val (.int p3), .val (.long q1), .second, .val (.long q2), .second, .val (.long q3), .second, .val (.int (0 : Int32)), .val (.int (((p1.toUInt32 >>> ((1 : Int32) &&& 31).toUInt32).toInt32) &&& (3 : Int32))), .val .null, .val (.int (0 : Int32)), .val .null, .unset, .unset, .unset, .unset, .unset, .unset, .unset, .unset, .unset, .unset] [(.int p2)]))
      refine ownVia (fun _ k => XS.bipush X0.here hx rfl (hb hby at_75) k) ?_
      show ownFin _ _ _ _ _ (T0.setTop (mkF m 77 #[.val (.int p1), .val (.int p2), .val (.int p3), .val (.long q1), .second, .val (.long q2), .second, .val (.long q3), .second, .val (.int (0 : Int32)), .val (.int (((p1.toUInt32 >>> ((1 : Int32) &&& 31).toUInt32).toInt32) &&& (3 : Int32))), .val .null, .val (.int (0 : Int32)), .val .null, .unset, .unset, .unset, .unset, .unset, .unset, .unset, .unset, .unset, .unset] [(.int (8 : Int32)), (.int p2)]))
      refine ownVia (fun _ k => XS.iushr X0.here hx rfl (hb hby at_77) rfl k) ?_
      show ownFin _ _ _ _ _ (T0.setTop (mkF m 78 #[.val (.int p1), .val (.int p2), .val (.int p3), .val (.long q1), .second, .val (.long q2), .second, .val (.long q3), .second, .val (.int (0 : Int32)), .val (.int (((p1.toUInt32 >>> ((1 : Int32) &&& 31).toUInt32).toInt32) &&& (3 : Int32))), .val .null, .val (.int (0 : Int32)), .val .null, .unset, .unset, .unset, .unset, .unset, .unset, .unset, .unset, .unset, .unset] [(.int ((p2.toUInt32 >>> ((8 : Int32) &&& 31).toUInt32).toInt32))]))
      refine ownVia (fun _ k => XS.sipush X0.here hx rfl (hb hby at_78) k) ?_
      show ownFin _ _ _ _ _ (T0.setTop (mkF m 81 #[.val (.int p1), .val (.int p2), .val (.int p3), .val (.long q1), .second, .val (.long q2), .second, .val (.long q3), .second, .val (.int (0 : Int32)), .val (.int (((p1.toUInt32 >>> ((1 : Int32) &&& 31).toUInt32).toInt32) &&& (3 : Int32))), .val .null, .val (.int (0 : Int32)), .val .null, .unset, .unset, .unset, .unset, .unset, .unset, .unset, .unset, .unset, .unset] [(.int (255 : Int32)), (.int ((p2.toUInt32 >>> ((8 : Int32) &&& 31).toUInt32).toInt32))]))
      refine ownVia (fun _ k => XS.iand X0.here hx rfl (hb hby at_81) rfl k) ?_
      show ownFin _ _ _ _ _ (T0.setTop (mkF m 82 #[.val (.int p1), .val (.int p2), .val (.int p3), .val (.long q1), .second, .val (.long q2), .second, .val (.long q3), .second, .val (.int (0 : Int32)), .val (.int (((p1.toUInt32 >>> ((1 : Int32) &&& 31).toUInt32).toInt32) &&& (3 : Int32))), .val .null, .val (.int (0 : Int32)), .val .null, .unset, .unset, .unset, .unset, .unset, .unset, .unset, .unset, .unset, .unset] [(.int (((p2.toUInt32 >>> ((8 : Int32) &&& 31).toUInt32).toInt32) &&& (255 : Int32)))]))
      refine ownVia (fun _ k => XS.i2c X0.here hx rfl (hb hby at_82) rfl k) ?_
      show ownFin _ _ _ _ _ (T0.setTop (mkF m 83 #[.val (.int p1), .val (.int p2), .val (.int p3), .val (.long q1), .second, .val (.long q2), .second, .val (.long q3), .second, .val (.int (0 : Int32)), .val (.int (((p1.toUInt32 >>> ((1 : Int32) &&& 31).toUInt32).toInt32) &&& (3 : Int32))), .val .null, .val (.int (0 : Int32)), .val .null, .unset, .unset, .unset, .unset, .unset, .unset, .unset, .unset, .unset, .unset] [(.int ((((p2.toUInt32 >>> ((8 : Int32) &&& 31).toUInt32).toInt32) &&& (255 : Int32)).toUInt32.toUInt16.toUInt32.toInt32))]))
      refine ownCallS X0 hx hZ hown (hw _ (List.mem_of_getElem? (i := 0) rfl)) (hw _ (List.mem_of_getElem? (i := 1) rfl)) (hw _ (List.mem_of_getElem? (i := 2) rfl)) (hw _ (List.mem_of_getElem? (i := 3) rfl)) (by decide) e0 (own_vof l Z a0 hw ((((p2.toUInt32 >>> ((8 : Int32) &&& 31).toUInt32).toInt32) &&& (255 : Int32)).toUInt32.toUInt16.toUInt32.toInt32) h0 n0 cs0 Z0 O S_c hcs (own_ch _).2) (by rw [hml]; rfl) [(.int ((((p2.toUInt32 >>> ((8 : Int32) &&& 31).toUInt32).toInt32) &&& (255 : Int32)).toUInt32.toUInt16.toUInt32.toInt32))] [] (lenOf own_pd10 rfl) rfl rfl 0 rfl (hb hby at_83) (by decide) (by decide) (by decide) (by decide) ?_
      intro v132 T132 L132 X132 hq132
      obtain ⟨t0, rfl, N132q, K132, sq132⟩ := hq132
      have Z0 := Nat.le_trans Z0 K132.1
      have hk := Nat.le_trans hk K132.1
      have O := O.keep K132 all0
      have N132 := Fr.app N0 N132q
      show ownFin _ _ _ _ _ (T132.setTop (mkF m 86 #[.val (.int p1), .val (.int p2), .val (.int p3), .val (.long q1), .second, .val (.long q2), .second, .val (.long q3), .second, .val (.int (0 : Int32)), .val (.int (((p1.toUInt32 >>> ((1 : Int32) &&& 31).toUInt32).toInt32) &&& (3 : Int32))), .val .null, .val (.int (0 : Int32)), .val .null, .unset, .unset, .unset, .unset, .unset, .unset, .unset, .unset, .unset, .unset] [(.ref t0)]))
      refine ownVia (fun _ k => XS.astore X132.here hx rfl (hb hby at_86) rfl rfl (l' := #[.val (.int p1), .val (.int p2), .val (.int p3), .val (.long q1), .second, .val (.long q2), .second, .val (.long q3), .second, .val (.int (0 : Int32)), .val (.int (((p1.toUInt32 >>> ((1 : Int32) &&& 31).toUInt32).toInt32) &&& (3 : Int32))), .val .null, .val (.int (0 : Int32)), .val .null, .val (.ref t0), .unset, .unset, .unset, .unset, .unset, .unset, .unset, .unset, .unset]) rfl k) ?_
      show ownFin _ _ _ _ _ (T132.setTop (mkF m 88 #[.val (.int p1), .val (.int p2), .val (.int p3), .val (.long q1), .second, .val (.long q2), .second, .val (.long q3), .second, .val (.int (0 : Int32)), .val (.int (((p1.toUInt32 >>> ((1 : Int32) &&& 31).toUInt32).toInt32) &&& (3 : Int32))), .val .null, .val (.int (0 : Int32)), .val .null, .val (.ref t0), .unset, .unset, .unset, .unset, .unset, .unset, .unset, .unset, .unset] []))
      refine ownVia (fun _ k => XS.iloadN X132.here hx rfl (hb hby at_88) rfl k) ?_
      show ownFin _ _ _ _ _ (T132.setTop (mkF m 89 #[.val (.int p1), .val (.int p2), .val (.int p3), .val (.long q1), .second, .val (.long q2), .second, .val (.long q3), .second, .val (.int (0 : Int32)), .val (.int (((p1.toUInt32 >>> ((1 : Int32) &&& 31).toUInt32).toInt32) &&& (3 : Int32))), .val .null, .val (.int (0 : Int32)), .val .null, .val (.ref t0), .unset, .unset, .unset, .unset, .unset, .unset, .unset, .unset, .unset] [(.int p2)]))
      refine ownCallS X132 hx hZ hown (hw _ (List.mem_of_getElem? (i := 26) rfl)) (hw _ (List.mem_of_getElem? (i := 27) rfl)) (hw _ (List.mem_of_getElem? (i := 28) rfl)) (hw _ (List.mem_of_getElem? (i := 29) rfl)) (by decide) (rfl : T132.heap = T132.heap) (own_std l Z a0 hw p2 T132.heap n0 Z0 (by obtain ⟨z, q⟩ := k0; exact ⟨z, q.ext O.2⟩) (by obtain ⟨z, q⟩ := k1; exact ⟨z, q.ext O.2⟩) (by obtain ⟨z, q⟩ := k2; exact ⟨z, q.ext O.2⟩) (by obtain ⟨z, q⟩ := k3; exact ⟨z, q.ext O.2⟩) (by obtain ⟨z, q⟩ := k4; exact ⟨z, q.ext O.2⟩) (by obtain ⟨z, q⟩ := k5; exact ⟨z, q.ext O.2⟩) (by obtain ⟨z, q⟩ := k6; exact ⟨z, q.ext O.2⟩)) (by rw [hml]; rfl) [(.int p2)] [] (lenOf own_pd11 rfl) rfl rfl 0 rfl (hb hby at_89) (by decide) (by decide) (by decide) (by decide) ?_
      intro v133 T133 L133 X133 hq133
      obtain ⟨sd, rfl, N133q, eq133⟩ := hq133
      have N133 := Fr.app N132 N133q
      have e133 : T133.heap = T132.heap := eq133
      show ownFin _ _ _ _ _ (T133.setTop (mkF m 92 #[.val (.int p1), .val (.int p2), .val (.int p3), .val (.long q1), .second, .val (.long q2), .second, .val (.long q3), .second, .val (.int (0 : Int32)), .val (.int (((p1.toUInt32 >>> ((1 : Int32) &&& 31).toUInt32).toInt32) &&& (3 : Int32))), .val .null, .val (.int (0 : Int32)), .val .null, .val (.ref t0), .unset, .unset, .unset, .unset, .unset, .unset, .unset, .unset, .unset] [(.ref sd)]))
      refine ownVia (fun _ k => XS.astore X133.here hx rfl (hb hby at_92) rfl rfl (l' := #[.val (.int p1), .val (.int p2), .val (.int p3), .val (.long q1), .second, .val (.long q2), .second, .val (.long q3), .second, .val (.int (0 : Int32)), .val (.int (((p1.toUInt32 >>> ((1 : Int32) &&& 31).toUInt32).toInt32) &&& (3 : Int32))), .val .null, .val (.int (0 : Int32)), .val .null, .val (.ref t0), .val (.ref sd), .unset, .unset, .unset, .unset, .unset, .unset, .unset, .unset]) rfl k) ?_
      show ownFin _ _ _ _ _ (T133.setTop (mkF m 94 #[.val (.int p1), .val (.int p2), .val (.int p3), .val (.long q1), .second, .val (.long q2), .second, .val (.long q3), .second, .val (.int (0 : Int32)), .val (.int (((p1.toUInt32 >>> ((1 : Int32) &&& 31).toUInt32).toInt32) &&& (3 : Int32))), .val .null, .val (.int (0 : Int32)), .val .null, .val (.ref t0), .val (.ref sd), .unset, .unset, .unset, .unset, .unset, .unset, .unset, .unset] []))
      refine ownVia (fun _ k => XS.lloadN X133.here hx rfl (hb hby at_94) rfl k) ?_
      show ownFin _ _ _ _ _ (T133.setTop (mkF m 95 #[.val (.int p1), .val (.int p2), .val (.int p3), .val (.long q1), .second, .val (.long q2), .second, .val (.long q3), .second, .val (.int (0 : Int32)), .val (.int (((p1.toUInt32 >>> ((1 : Int32) &&& 31).toUInt32).toInt32) &&& (3 : Int32))), .val .null, .val (.int (0 : Int32)), .val .null, .val (.ref t0), .val (.ref sd), .unset, .unset, .unset, .unset, .unset, .unset, .unset, .unset] [(.long q1)]))
      refine ownVia (fun _ k => X133.ldc2Long hx hown (mvT hZ (hw _ (List.mem_of_getElem? (i := 34) rfl))) (g := (mkF m 95 #[.val (.int p1), .val (.int p2), .val (.int p3), .val (.long q1), .second, .val (.long q2), .second, .val (.long q3), .second, .val (.int (0 : Int32)), .val (.int (((p1.toUInt32 >>> ((1 : Int32) &&& 31).toUInt32).toInt32) &&& (3 : Int32))), .val .null, .val (.int (0 : Int32)), .val .null, .val (.ref t0), .val (.ref sd), .unset, .unset, .unset, .unset, .unset, .unset, .unset, .unset] [(.long q1)])) rfl (hb hby at_95) _ k) ?_
      show ownFin _ _ _ _ _ (T133.setTop (mkF m 98 #[.val (.int p1), .val (.int p2), .val (.int p3), .val (.long q1), .second, .val (.long q2), .second, .val (.long q3), .second, .val (.int (0 : Int32)), .val (.int (((p1.toUInt32 >>> ((1 : Int32) &&& 31).toUInt32).toInt32) &&& (3 : Int32))), .val .null, .val (.int (0 : Int32)), .val .null, .val (.ref t0), .val (.ref sd), .unset, .unset, .unset, .unset, .unset, .unset, .unset, .unset] [(.long (2147483648 : Int64)), (.long q1)]))
      refine ownVia (fun _ k => XS.lrem X133.here hx rfl (hb hby at_98) rfl (by decide) k) ?_
      show ownFin _ _ _ _ _ (T133.setTop (mkF m 99 #[.val (.int p1), .val (.int p2), .val (.int p3), .val (.long q1), .second, .val (.long q2), .second, .val (.long q3), .second, .val (.int (0 : Int32)), .val (.int (((p1.toUInt32 >>> ((1 : Int32) &&& 31).toUInt32).toInt32) &&& (3 : Int32))), .val .null, .val (.int (0 : Int32)), .val .null, .val (.ref t0), .val (.ref sd), .unset, .unset, .unset, .unset, .unset, .unset, .unset, .unset] [(.long (q1 - (q1 / (2147483648 : Int64)) * (2147483648 : Int64)))]))
      refine ownVia (fun _ k => XS.lstore X133.here hx rfl (hb hby at_99) rfl (l' := #[.val (.int p1), .val (.int p2), .val (.int p3), .val (.long q1), .second, .val (.long q2), .second, .val (.long q3), .second, .val (.int (0 : Int32)), .val (.int (((p1.toUInt32 >>> ((1 : Int32) &&& 31).toUInt32).toInt32) &&& (3 : Int32))), .val .null, .val (.int (0 : Int32)), .val .null, .val (.ref t0), .val (.ref sd), .val (.long (q1 - (q1 / (2147483648 : Int64)) * (2147483648 : Int64))), .second, .unset, .unset, .unset, .unset, .unset, .unset]) rfl k) ?_
      show ownFin _ _ _ _ _ (T133.setTop (mkF m 101 #[.val (.int p1), .val (.int p2), .val (.int p3), .val (.long q1), .second, .val (.long q2), .second, .val (.long q3), .second, .val (.int (0 : Int32)), .val (.int (((p1.toUInt32 >>> ((1 : Int32) &&& 31).toUInt32).toInt32) &&& (3 : Int32))), .val .null, .val (.int (0 : Int32)), .val .null, .val (.ref t0), .val (.ref sd), .val (.long (q1 - (q1 / (2147483648 : Int64)) * (2147483648 : Int64))), .second, .unset, .unset, .unset, .unset, .unset, .unset] []))
      refine ownVia (fun _ k => XS.lload X133.here hx rfl (hb hby at_101) rfl k) ?_
      show ownFin _ _ _ _ _ (T133.setTop (mkF m 103 #[.val (.int p1), .val (.int p2), .val (.int p3), .val (.long q1), .second, .val (.long q2), .second, .val (.long q3), .second, .val (.int (0 : Int32)), .val (.int (((p1.toUInt32 >>> ((1 : Int32) &&& 31).toUInt32).toInt32) &&& (3 : Int32))), .val .null, .val (.int (0 : Int32)), .val .null, .val (.ref t0), .val (.ref sd), .val (.long (q1 - (q1 / (2147483648 : Int64)) * (2147483648 : Int64))), .second, .unset, .unset, .unset, .unset, .unset, .unset] [(.long q2)]))
      refine ownVia (fun _ k => X133.ldc2Long hx hown (mvT hZ (hw _ (List.mem_of_getElem? (i := 34) rfl))) (g := (mkF m 103 #[.val (.int p1), .val (.int p2), .val (.int p3), .val (.long q1), .second, .val (.long q2), .second, .val (.long q3), .second, .val (.int (0 : Int32)), .val (.int (((p1.toUInt32 >>> ((1 : Int32) &&& 31).toUInt32).toInt32) &&& (3 : Int32))), .val .null, .val (.int (0 : Int32)), .val .null, .val (.ref t0), .val (.ref sd), .val (.long (q1 - (q1 / (2147483648 : Int64)) * (2147483648 : Int64))), .second, .unset, .unset, .unset, .unset, .unset, .unset] [(.long q2)])) rfl (hb hby at_103) _ k) ?_
      show ownFin _ _ _ _ _ (T133.setTop (mkF m 106 #[.val (.int p1), .val (.int p2), .val (.int p3), .val (.long q1), .second, .val (.long q2), .second, .val (.long q3), .second, .val (.int (0 : Int32)), .val (.int (((p1.toUInt32 >>> ((1 : Int32) &&& 31).toUInt32).toInt32) &&& (3 : Int32))), .val .null, .val (.int (0 : Int32)), .val .null, .val (.ref t0), .val (.ref sd), .val (.long (q1 - (q1 / (2147483648 : Int64)) * (2147483648 : Int64))), .second, .unset, .unset, .unset, .unset, .unset, .unset] [(.long (2147483648 : Int64)), (.long q2)]))
      refine ownVia (fun _ k => XS.lrem X133.here hx rfl (hb hby at_106) rfl (by decide) k) ?_
      show ownFin _ _ _ _ _ (T133.setTop (mkF m 107 #[.val (.int p1), .val (.int p2), .val (.int p3), .val (.long q1), .second, .val (.long q2), .second, .val (.long q3), .second, .val (.int (0 : Int32)), .val (.int (((p1.toUInt32 >>> ((1 : Int32) &&& 31).toUInt32).toInt32) &&& (3 : Int32))), .val .null, .val (.int (0 : Int32)), .val .null, .val (.ref t0), .val (.ref sd), .val (.long (q1 - (q1 / (2147483648 : Int64)) * (2147483648 : Int64))), .second, .unset, .unset, .unset, .unset, .unset, .unset] [(.long (q2 - (q2 / (2147483648 : Int64)) * (2147483648 : Int64)))]))
      refine ownVia (fun _ k => XS.lstore X133.here hx rfl (hb hby at_107) rfl (l' := #[.val (.int p1), .val (.int p2), .val (.int p3), .val (.long q1), .second, .val (.long q2), .second, .val (.long q3), .second, .val (.int (0 : Int32)), .val (.int (((p1.toUInt32 >>> ((1 : Int32) &&& 31).toUInt32).toInt32) &&& (3 : Int32))), .val .null, .val (.int (0 : Int32)), .val .null, .val (.ref t0), .val (.ref sd), .val (.long (q1 - (q1 / (2147483648 : Int64)) * (2147483648 : Int64))), .second, .val (.long (q2 - (q2 / (2147483648 : Int64)) * (2147483648 : Int64))), .second, .unset, .unset, .unset, .unset]) rfl k) ?_
      show ownFin _ _ _ _ _ (T133.setTop (mkF m 109 #[.val (.int p1), .val (.int p2), .val (.int p3), .val (.long q1), .second, .val (.long q2), .second, .val (.long q3), .second, .val (.int (0 : Int32)), .val (.int (((p1.toUInt32 >>> ((1 : Int32) &&& 31).toUInt32).toInt32) &&& (3 : Int32))), .val .null, .val (.int (0 : Int32)), .val .null, .val (.ref t0), .val (.ref sd), .val (.long (q1 - (q1 / (2147483648 : Int64)) * (2147483648 : Int64))), .second, .val (.long (q2 - (q2 / (2147483648 : Int64)) * (2147483648 : Int64))), .second, .unset, .unset, .unset, .unset] []))
      refine ownVia (fun _ k => XS.lload X133.here hx rfl (hb hby at_109) rfl k) ?_
      show ownFin _ _ _ _ _ (T133.setTop (mkF m 111 #[.val (.int p1), .val (.int p2), .val (.int p3), .val (.long q1), .second, .val (.long q2), .second, .val (.long q3), .second, .val (.int (0 : Int32)), .val (.int (((p1.toUInt32 >>> ((1 : Int32) &&& 31).toUInt32).toInt32) &&& (3 : Int32))), .val .null, .val (.int (0 : Int32)), .val .null, .val (.ref t0), .val (.ref sd), .val (.long (q1 - (q1 / (2147483648 : Int64)) * (2147483648 : Int64))), .second, .val (.long (q2 - (q2 / (2147483648 : Int64)) * (2147483648 : Int64))), .second, .unset, .unset, .unset, .unset] [(.long q3)]))
      refine ownVia (fun _ k => X133.ldc2Long hx hown (mvT hZ (hw _ (List.mem_of_getElem? (i := 34) rfl))) (g := (mkF m 111 #[.val (.int p1), .val (.int p2), .val (.int p3), .val (.long q1), .second, .val (.long q2), .second, .val (.long q3), .second, .val (.int (0 : Int32)), .val (.int (((p1.toUInt32 >>> ((1 : Int32) &&& 31).toUInt32).toInt32) &&& (3 : Int32))), .val .null, .val (.int (0 : Int32)), .val .null, .val (.ref t0), .val (.ref sd), .val (.long (q1 - (q1 / (2147483648 : Int64)) * (2147483648 : Int64))), .second, .val (.long (q2 - (q2 / (2147483648 : Int64)) * (2147483648 : Int64))), .second, .unset, .unset, .unset, .unset] [(.long q3)])) rfl (hb hby at_111) _ k) ?_
      show ownFin _ _ _ _ _ (T133.setTop (mkF m 114 #[.val (.int p1), .val (.int p2), .val (.int p3), .val (.long q1), .second, .val (.long q2), .second, .val (.long q3), .second, .val (.int (0 : Int32)), .val (.int (((p1.toUInt32 >>> ((1 : Int32) &&& 31).toUInt32).toInt32) &&& (3 : Int32))), .val .null, .val (.int (0 : Int32)), .val .null, .val (.ref t0), .val (.ref sd), .val (.long (q1 - (q1 / (2147483648 : Int64)) * (2147483648 : Int64))), .second, .val (.long (q2 - (q2 / (2147483648 : Int64)) * (2147483648 : Int64))), .second, .unset, .unset, .unset, .unset] [(.long (2147483648 : Int64)), (.long q3)]))
      refine ownVia (fun _ k => XS.lrem X133.here hx rfl (hb hby at_114) rfl (by decide) k) ?_
      show ownFin _ _ _ _ _ (T133.setTop (mkF m 115 #[.val (.int p1), .val (.int p2), .val (.int p3), .val (.long q1), .second, .val (.long q2), .second, .val (.long q3), .second, .val (.int (0 : Int32)), .val (.int (((p1.toUInt32 >>> ((1 : Int32) &&& 31).toUInt32).toInt32) &&& (3 : Int32))), .val .null, .val (.int (0 : Int32)), .val .null, .val (.ref t0), .val (.ref sd), .val (.long (q1 - (q1 / (2147483648 : Int64)) * (2147483648 : Int64))), .second, .val (.long (q2 - (q2 / (2147483648 : Int64)) * (2147483648 : Int64))), .second, .unset, .unset, .unset, .unset] [(.long (q3 - (q3 / (2147483648 : Int64)) * (2147483648 : Int64)))]))
      refine ownVia (fun _ k => XS.lstore X133.here hx rfl (hb hby at_115) rfl (l' := #[.val (.int p1), .val (.int p2), .val (.int p3), .val (.long q1), .second, .val (.long q2), .second, .val (.long q3), .second, .val (.int (0 : Int32)), .val (.int (((p1.toUInt32 >>> ((1 : Int32) &&& 31).toUInt32).toInt32) &&& (3 : Int32))), .val .null, .val (.int (0 : Int32)), .val .null, .val (.ref t0), .val (.ref sd), .val (.long (q1 - (q1 / (2147483648 : Int64)) * (2147483648 : Int64))), .second, .val (.long (q2 - (q2 / (2147483648 : Int64)) * (2147483648 : Int64))), .second, .val (.long (q3 - (q3 / (2147483648 : Int64)) * (2147483648 : Int64))), .second, .unset, .unset]) rfl k) ?_
      show ownFin _ _ _ _ _ (T133.setTop (mkF m 117 #[.val (.int p1), .val (.int p2), .val (.int p3), .val (.long q1), .second, .val (.long q2), .second, .val (.long q3), .second, .val (.int (0 : Int32)), .val (.int (((p1.toUInt32 >>> ((1 : Int32) &&& 31).toUInt32).toInt32) &&& (3 : Int32))), .val .null, .val (.int (0 : Int32)), .val .null, .val (.ref t0), .val (.ref sd), .val (.long (q1 - (q1 / (2147483648 : Int64)) * (2147483648 : Int64))), .second, .val (.long (q2 - (q2 / (2147483648 : Int64)) * (2147483648 : Int64))), .second, .val (.long (q3 - (q3 / (2147483648 : Int64)) * (2147483648 : Int64))), .second, .unset, .unset] []))
      have hq1 := own_rem q1
      generalize h_y1 : (q1 - (q1 / (2147483648 : Int64)) * (2147483648 : Int64)) = y1
      show ownFin _ _ _ _ _ (T133.setTop (mkF m 117 #[.val (.int p1), .val (.int p2), .val (.int p3), .val (.long q1), .second, .val (.long q2), .second, .val (.long q3), .second, .val (.int (0 : Int32)), .val (.int (((p1.toUInt32 >>> ((1 : Int32) &&& 31).toUInt32).toInt32) &&& (3 : Int32))), .val .null, .val (.int (0 : Int32)), .val .null, .val (.ref t0), .val (.ref sd), .val (.long y1), .second, .val (.long (q2 - (q2 / (2147483648 : Int64)) * (2147483648 : Int64))), .second, .val (.long (q3 - (q3 / (2147483648 : Int64)) * (2147483648 : Int64))), .second, .unset, .unset] []))
      rw [h_y1] at hq1
      have hq2 := own_rem q2
      generalize h_y2 : (q2 - (q2 / (2147483648 : Int64)) * (2147483648 : Int64)) = y2
      show ownFin _ _ _ _ _ (T133.setTop (mkF m 117 #[.val (.int p1), .val (.int p2), .val (.int p3), .val (.long q1), .second, .val (.long q2), .second, .val (.long q3), .second, .val (.int (0 : Int32)), .val (.int (((p1.toUInt32 >>> ((1 : Int32) &&& 31).toUInt32).toInt32) &&& (3 : Int32))), .val .null, .val (.int (0 : Int32)), .val .null, .val (.ref t0), .val (.ref sd), .val (.long y1), .second, .val (.long y2), .second, .val (.long (q3 - (q3 / (2147483648 : Int64)) * (2147483648 : Int64))), .second, .unset, .unset] []))
      rw [h_y2] at hq2
      have hq3 := own_rem q3
      generalize h_y3 : (q3 - (q3 / (2147483648 : Int64)) * (2147483648 : Int64)) = y3
      show ownFin _ _ _ _ _ (T133.setTop (mkF m 117 #[.val (.int p1), .val (.int p2), .val (.int p3), .val (.long q1), .second, .val (.long q2), .second, .val (.long q3), .second, .val (.int (0 : Int32)), .val (.int (((p1.toUInt32 >>> ((1 : Int32) &&& 31).toUInt32).toInt32) &&& (3 : Int32))), .val .null, .val (.int (0 : Int32)), .val .null, .val (.ref t0), .val (.ref sd), .val (.long y1), .second, .val (.long y2), .second, .val (.long y3), .second, .unset, .unset] []))
      rw [h_y3] at hq3
      obtain ⟨T134, h134, X134, e134, E134, A134, D134, -, st134⟩ := newO X133 hx hZ hown (hw _ (List.mem_of_getElem? (i := 35) rfl)) (hw _ (List.mem_of_getElem? (i := 36) rfl)) (hw _ (List.mem_of_getElem? (i := 37) rfl)) e133 (g := (mkF m 117 #[.val (.int p1), .val (.int p2), .val (.int p3), .val (.long q1), .second, .val (.long q2), .second, .val (.long q3), .second, .val (.int (0 : Int32)), .val (.int (((p1.toUInt32 >>> ((1 : Int32) &&& 31).toUInt32).toInt32) &&& (3 : Int32))), .val .null, .val (.int (0 : Int32)), .val .null, .val (.ref t0), .val (.ref sd), .val (.long y1), .second, .val (.long y2), .second, .val (.long y3), .second, .unset, .unset] [])) rfl (hb hby at_117) (by decide) (by decide)
      obtain ⟨b1, g134⟩ : ∃ z, z = T132.heap.size := ⟨_, rfl⟩
      rw [← g134] at A134 D134 st134
      have ge_b1 : n0 ≤ b1 := Nat.le_trans Z0 (Nat.le_of_eq g134.symm)
      have O := O.ext E134
      have Z0 := own_sz Z0 E134
      have hk := own_sz hk E134
      have E_b1 := A134
      have F_b1_outTradeNo : Fld Z h134 b1 "com/example/tillbridge/tillbridge/channel/Bill$Line" "outTradeNo" "Ljava/lang/String;" .null := D134 (Or.inr (hw _ (List.mem_of_getElem? (i := 54) rfl))) (ty := (.object "java/lang/String")) (by decide)
      have F_b1_outRefundNo : Fld Z h134 b1 "com/example/tillbridge/tillbridge/channel/Bill$Line" "outRefundNo" "Ljava/lang/String;" .null := D134 (Or.inr (hw _ (List.mem_of_getElem? (i := 56) rfl))) (ty := (.object "java/lang/String")) (by decide)
      have F_b1_state : Fld Z h134 b1 "com/example/tillbridge/tillbridge/channel/Bill$Line" "state" "Ljava/lang/String;" .null := D134 (Or.inr (hw _ (List.mem_of_getElem? (i := 58) rfl))) (ty := (.object "java/lang/String")) (by decide)
      have F_b1_standing : Fld Z h134 b1 "com/example/tillbridge/tillbridge/channel/Bill$Line" "standing" "Lcom/example/tillbridge/tillbridge/channel/Bill$Standing;" .null := D134 (Or.inr (hw _ (List.mem_of_getElem? (i := 60) rfl))) (ty := (.object "com/example/tillbridge/tillbridge/channel/Bill$Standing")) (by decide)
      have F_b1_amount : Fld Z h134 b1 "com/example/tillbridge/tillbridge/channel/Bill$Line" "amount" "J" (.long (0 : Int64)) := D134 (Or.inr (hw _ (List.mem_of_getElem? (i := 62) rfl))) (ty := .long) (by decide)
      have F_b1_couponRefund : Fld Z h134 b1 "com/example/tillbridge/tillbridge/channel/Bill$Line" "couponRefund" "J" (.long (0 : Int64)) := D134 (Or.inr (hw _ (List.mem_of_getElem? (i := 64) rfl))) (ty := .long) (by decide)
      have F_b1_fee : Fld Z h134 b1 "com/example/tillbridge/tillbridge/channel/Bill$Line" "fee" "J" (.long (0 : Int64)) := D134 (Or.inr (hw _ (List.mem_of_getElem? (i := 66) rfl))) (ty := .long) (by decide)
      refine ownVia st134 ?_
      show ownFin _ _ _ _ _ (T134.setTop (mkF m 120 #[.val (.int p1), .val (.int p2), .val (.int p3), .val (.long q1), .second, .val (.long q2), .second, .val (.long q3), .second, .val (.int (0 : Int32)), .val (.int (((p1.toUInt32 >>> ((1 : Int32) &&& 31).toUInt32).toInt32) &&& (3 : Int32))), .val .null, .val (.int (0 : Int32)), .val .null, .val (.ref t0), .val (.ref sd), .val (.long y1), .second, .val (.long y2), .second, .val (.long y3), .second, .unset, .unset] [(.ref b1)]))
      refine ownVia (fun _ k => XS.dup X134.here hx rfl (hb hby at_120) rfl rfl k) ?_
      show ownFin _ _ _ _ _ (T134.setTop (mkF m 121 #[.val (.int p1), .val (.int p2), .val (.int p3), .val (.long q1), .second, .val (.long q2), .second, .val (.long q3), .second, .val (.int (0 : Int32)), .val (.int (((p1.toUInt32 >>> ((1 : Int32) &&& 31).toUInt32).toInt32) &&& (3 : Int32))), .val .null, .val (.int (0 : Int32)), .val .null, .val (.ref t0), .val (.ref sd), .val (.long y1), .second, .val (.long y2), .second, .val (.long y3), .second, .unset, .unset] [(.ref b1), (.ref b1)]))
      refine ownVia (fun _ k => XS.aload X134.here hx rfl (hb hby at_121) rfl rfl k) ?_
      show ownFin _ _ _ _ _ (T134.setTop (mkF m 123 #[.val (.int p1), .val (.int p2), .val (.int p3), .val (.long q1), .second, .val (.long q2), .second, .val (.long q3), .second, .val (.int (0 : Int32)), .val (.int (((p1.toUInt32 >>> ((1 : Int32) &&& 31).toUInt32).toInt32) &&& (3 : Int32))), .val .null, .val (.int (0 : Int32)), .val .null, .val (.ref t0), .val (.ref sd), .val (.long y1), .second, .val (.long y2), .second, .val (.long y3), .second, .unset, .unset] [(.ref t0), (.ref b1), (.ref b1)]))
      refine ownVia (fun _ k => XS.aload X134.here hx rfl (hb hby at_123) rfl rfl k) ?_
      show ownFin _ _ _ _ _ (T134.setTop (mkF m 125 #[.val (.int p1), .val (.int p2), .val (.int p3), .val (.long q1), .second, .val (.long q2), .second, .val (.long q3), .second, .val (.int (0 : Int32)), .val (.int (((p1.toUInt32 >>> ((1 : Int32) &&& 31).toUInt32).toInt32) &&& (3 : Int32))), .val .null, .val (.int (0 : Int32)), .val .null, .val (.ref t0), .val (.ref sd), .val (.long y1), .second, .val (.long y2), .second, .val (.long y3), .second, .unset, .unset] [.null, (.ref t0), (.ref b1), (.ref b1)]))
      refine ownVia (fun _ k => XS.aload X134.here hx rfl (hb hby at_125) rfl rfl k) ?_
      show ownFin _ _ _ _ _ (T134.setTop (mkF m 127 #[.val (.int p1), .val (.int p2), .val (.int p3), .val (.long q1), .second, .val (.long q2), .second, .val (.long q3), .second, .val (.int (0 : Int32)), .val (.int (((p1.toUInt32 >>> ((1 : Int32) &&& 31).toUInt32).toInt32) &&& (3 : Int32))), .val .null, .val (.int (0 : Int32)), .val .null, .val (.ref t0), .val (.ref sd), .val (.long y1), .second, .val (.long y2), .second, .val (.long y3), .second, .unset, .unset] [.null, .null, (.ref t0), (.ref b1), (.ref b1)]))
      refine ownVia (fun _ k => XS.aload X134.here hx rfl (hb hby at_127) rfl rfl k) ?_
      show ownFin _ _ _ _ _ (T134.setTop (mkF m 129 #[.val (.int p1), .val (.int p2), .val (.int p3), .val (.long q1), .second, .val (.long q2), .second, .val (.long q3), .second, .val (.int (0 : Int32)), .val (.int (((p1.toUInt32 >>> ((1 : Int32) &&& 31).toUInt32).toInt32) &&& (3 : Int32))), .val .null, .val (.int (0 : Int32)), .val .null, .val (.ref t0), .val (.ref sd), .val (.long y1), .second, .val (.long y2), .second, .val (.long y3), .second, .unset, .unset] [(.ref sd), .null, .null, (.ref t0), (.ref b1), (.ref b1)]))
      refine ownVia (fun _ k => XS.lload X134.here hx rfl (hb hby at_129) rfl k) ?_
      show ownFin _ _ _ _ _ (T134.setTop (mkF m 131 #[.val (.int p1), .val (.int p2), .val (.int p3), .val (.long q1), .second, .val (.long q2), .second, .val (.long q3), .second, .val (.int (0 : Int32)), .val (.int (((p1.toUInt32 >>> ((1 : Int32) &&& 31).toUInt32).toInt32) &&& (3 : Int32))), .val .null, .val (.int (0 : Int32)), .val .null, .val (.ref t0), .val (.ref sd), .val (.long y1), .second, .val (.long y2), .second, .val (.long y3), .second, .unset, .unset] [(.long y1), (.ref sd), .null, .null, (.ref t0), (.ref b1), (.ref b1)]))
      refine ownVia (fun _ k => XS.lload X134.here hx rfl (hb hby at_131) rfl k) ?_
      show ownFin _ _ _ _ _ (T134.setTop (mkF m 133 #[.val (.int p1), .val (.int p2), .val (.int p3), .val (.long q1), .second, .val (.long q2), .second, .val (.long q3), .second, .val (.int (0 : Int32)), .val (.int (((p1.toUInt32 >>> ((1 : Int32) &&& 31).toUInt32).toInt32) &&& (3 : Int32))), .val .null, .val (.int (0 : Int32)), .val .null, .val (.ref t0), .val (.ref sd), .val (.long y1), .second, .val (.long y2), .second, .val (.long y3), .second, .unset, .unset] [(.long y2), (.long y1), (.ref sd), .null, .null, (.ref t0), (.ref b1), (.ref b1)]))
      refine ownVia (fun _ k => XS.lload X134.here hx rfl (hb hby at_133) rfl k) ?_
      show ownFin _ _ _ _ _ (T134.setTop (mkF m 135 #[.val (.int p1), .val (.int p2), .val (.int p3), .val (.long q1), .second, .val (.long q2), .second, .val (.long q3), .second, .val (.int (0 : Int32)), .val (.int (((p1.toUInt32 >>> ((1 : Int32) &&& 31).toUInt32).toInt32) &&& (3 : Int32))), .val .null, .val (.int (0 : Int32)), .val .null, .val (.ref t0), .val (.ref sd), .val (.long y1), .second, .val (.long y2), .second, .val (.long y3), .second, .unset, .unset] [(.long y3), (.long y2), (.long y1), (.ref sd), .null, .null, (.ref t0), (.ref b1), (.ref b1)]))
      refine ownCallN X134 hx hZ hown rfl (hw _ (List.mem_of_getElem? (i := 38) rfl)) (hw _ (List.mem_of_getElem? (i := 39) rfl)) (hw _ (List.mem_of_getElem? (i := 37) rfl)) (hw _ (List.mem_of_getElem? (i := 40) rfl)) (by decide) e134 (own_line_nn l Z a0 hw b1 t0 sd y1 y2 y3 h134 n0 Z0 F_b1_outTradeNo F_b1_outRefundNo F_b1_state F_b1_standing F_b1_amount F_b1_couponRefund F_b1_fee E_b1 ge_b1 hq1 hq2 hq3) (by rw [hml]; rfl) b1 [(.ref t0), .null, .null, (.ref sd), (.long y1), (.long y2), (.long y3)] [(.ref b1)] (lenOf own_pd12 rfl) rfl rfl 1 rfl (hb hby at_135) (by decide) (by decide) (by decide) (by decide) ?_
      intro v135 T135 L135 X135 hq135
      obtain ⟨rfl, N135q, K135, F_b1⟩ := hq135
      have E_b1 := E_b1.keep K135
      have Z0 := Nat.le_trans Z0 K135.1
      have hk := Nat.le_trans hk K135.1
      have O := O.keep K135 (allS ge_b1 all0)
      have N135 := Fr.app N133 N135q
      show ownFin _ _ _ _ _ (T135.setTop (mkF m 138 #[.val (.int p1), .val (.int p2), .val (.int p3), .val (.long q1), .second, .val (.long q2), .second, .val (.long q3), .second, .val (.int (0 : Int32)), .val (.int (((p1.toUInt32 >>> ((1 : Int32) &&& 31).toUInt32).toInt32) &&& (3 : Int32))), .val .null, .val (.int (0 : Int32)), .val .null, .val (.ref t0), .val (.ref sd), .val (.long y1), .second, .val (.long y2), .second, .val (.long y3), .second, .unset, .unset] [(.ref b1)]))
      refine ownVia (fun _ k => XS.astore X135.here hx rfl (hb hby at_138) rfl rfl (l' := #[.val (.int p1), .val (.int p2), .val (.int p3), .val (.long q1), .second, .val (.long q2), .second, .val (.long q3), .second, .val (.int (0 : Int32)), .val (.int (((p1.toUInt32 >>> ((1 : Int32) &&& 31).toUInt32).toInt32) &&& (3 : Int32))), .val .null, .val (.int (0 : Int32)), .val .null, .val (.ref t0), .val (.ref sd), .val (.long y1), .second, .val (.long y2), .second, .val (.long y3), .second, .val (.ref b1), .unset]) rfl k) ?_
      show ownFin _ _ _ _ _ (T135.setTop (mkF m 140 #[.val (.int p1), .val (.int p2), .val (.int p3), .val (.long q1), .second, .val (.long q2), .second, .val (.long q3), .second, .val (.int (0 : Int32)), .val (.int (((p1.toUInt32 >>> ((1 : Int32) &&& 31).toUInt32).toInt32) &&& (3 : Int32))), .val .null, .val (.int (0 : Int32)), .val .null, .val (.ref t0), .val (.ref sd), .val (.long y1), .second, .val (.long y2), .second, .val (.long y3), .second, .val (.ref b1), .unset] []))
      refine ownVia (fun _ k => XS.iload X135.here hx rfl (hb hby at_140) rfl k) ?_
      show ownFin _ _ _ _ _ (T135.setTop (mkF m 142 #[.val (.int p1), .val (.int p2), .val (.int p3), .val (.long q1), .second, .val (.long q2), .second, .val (.long q3), .second, .val (.int (0 : Int32)), .val (.int (((p1.toUInt32 >>> ((1 : Int32) &&& 31).toUInt32).toInt32) &&& (3 : Int32))), .val .null, .val (.int (0 : Int32)), .val .null, .val (.ref t0), .val (.ref sd), .val (.long y1), .second, .val (.long y2), .second, .val (.long y3), .second, .val (.ref b1), .unset] [(.int (0 : Int32))]))
      refine ownVia (fun _ k => XS.istore X135.here hx rfl (hb hby at_142) rfl (l' := #[.val (.int p1), .val (.int p2), .val (.int p3), .val (.long q1), .second, .val (.long q2), .second, .val (.long q3), .second, .val (.int (0 : Int32)), .val (.int (((p1.toUInt32 >>> ((1 : Int32) &&& 31).toUInt32).toInt32) &&& (3 : Int32))), .val .null, .val (.int (0 : Int32)), .val .null, .val (.ref t0), .val (.ref sd), .val (.long y1), .second, .val (.long y2), .second, .val (.long y3), .second, .val (.ref b1), .val (.int (0 : Int32))]) rfl k) ?_
      show ownFin _ _ _ _ _ (T135.setTop (mkF m 144 #[.val (.int p1), .val (.int p2), .val (.int p3), .val (.long q1), .second, .val (.long q2), .second, .val (.long q3), .second, .val (.int (0 : Int32)), .val (.int (((p1.toUInt32 >>> ((1 : Int32) &&& 31).toUInt32).toInt32) &&& (3 : Int32))), .val .null, .val (.int (0 : Int32)), .val .null, .val (.ref t0), .val (.ref sd), .val (.long y1), .second, .val (.long y2), .second, .val (.long y3), .second, .val (.ref b1), .val (.int (0 : Int32))] []))
      refine ownVia (fun _ k => XS.aload X135.here hx rfl (hb hby at_144) rfl rfl k) ?_
      show ownFin _ _ _ _ _ (T135.setTop (mkF m 146 #[.val (.int p1), .val (.int p2), .val (.int p3), .val (.long q1), .second, .val (.long q2), .second, .val (.long q3), .second, .val (.int (0 : Int32)), .val (.int (((p1.toUInt32 >>> ((1 : Int32) &&& 31).toUInt32).toInt32) &&& (3 : Int32))), .val .null, .val (.int (0 : Int32)), .val .null, .val (.ref t0), .val (.ref sd), .val (.long y1), .second, .val (.long y2), .second, .val (.long y3), .second, .val (.ref b1), .val (.int (0 : Int32))] [(.ref b1)]))
      refine ownCallV X135 hx hZ hown (hw _ (List.mem_of_getElem? (i := 67) rfl)) (hw _ (List.mem_of_getElem? (i := 68) rfl)) (hw _ (List.mem_of_getElem? (i := 70) rfl)) (hw _ (List.mem_of_getElem? (i := 70) rfl)) (hw _ (List.mem_of_getElem? (i := 69) rfl)) (hw _ (List.mem_of_getElem? (i := 37) rfl)) (hw _ (List.mem_of_getElem? (i := 71) rfl)) (by decide) (rfl : T135.heap = T135.heap) E_b1 (own_isr_n l Z a0 hw b1 T135.heap n0  Z0 F_b1) (by rw [hml]; rfl) [] [] (lenOf own_pd13 rfl) rfl rfl 0 rfl (hb hby at_146) (by decide) (by decide) (by decide) (by decide) ?_
      intro v136 T136 L136 X136 hq136
      obtain ⟨rfl, N136q, eq136⟩ := hq136
      have N136 := Fr.app N135 N136q
      have e136 : T136.heap = T135.heap := eq136
      show ownFin _ _ _ _ _ (T136.setTop (mkF m 149 #[.val (.int p1), .val (.int p2), .val (.int p3), .val (.long q1), .second, .val (.long q2), .second, .val (.long q3), .second, .val (.int (0 : Int32)), .val (.int (((p1.toUInt32 >>> ((1 : Int32) &&& 31).toUInt32).toInt32) &&& (3 : Int32))), .val .null, .val (.int (0 : Int32)), .val .null, .val (.ref t0), .val (.ref sd), .val (.long y1), .second, .val (.long y2), .second, .val (.long y3), .second, .val (.ref b1), .val (.int (0 : Int32))] [(.int (0 : Int32))]))
      refine ownVia (fun _ k => XS.iload X136.here hx rfl (hb hby at_149) rfl k) ?_
      show ownFin _ _ _ _ _ (T136.setTop (mkF m 151 #[.val (.int p1), .val (.int p2), .val (.int p3), .val (.long q1), .second, .val (.long q2), .second, .val (.long q3), .second, .val (.int (0 : Int32)), .val (.int (((p1.toUInt32 >>> ((1 : Int32) &&& 31).toUInt32).toInt32) &&& (3 : Int32))), .val .null, .val (.int (0 : Int32)), .val .null, .val (.ref t0), .val (.ref sd), .val (.long y1), .second, .val (.long y2), .second, .val (.long y3), .second, .val (.ref b1), .val (.int (0 : Int32))] [(.int (0 : Int32)), (.int (0 : Int32))]))
      refine ownVia (fun _ k => XS.icmpNo X136.here hx rfl (hb hby at_151) rfl (teq rfl).2 k) ?_
      show ownFin _ _ _ _ _ (T136.setTop (mkF m 154 #[.val (.int p1), .val (.int p2), .val (.int p3), .val (.long q1), .second, .val (.long q2), .second, .val (.long q3), .second, .val (.int (0 : Int32)), .val (.int (((p1.toUInt32 >>> ((1 : Int32) &&& 31).toUInt32).toInt32) &&& (3 : Int32))), .val .null, .val (.int (0 : Int32)), .val .null, .val (.ref t0), .val (.ref sd), .val (.long y1), .second, .val (.long y2), .second, .val (.long y3), .second, .val (.ref b1), .val (.int (0 : Int32))] []))
      refine ownVia (fun _ k => XS.iconst X136.here hx rfl (hb hby at_154) k) ?_
      show ownFin _ _ _ _ _ (T136.setTop (mkF m 155 #[.val (.int p1), .val (.int p2), .val (.int p3), .val (.long q1), .second, .val (.long q2), .second, .val (.long q3), .second, .val (.int (0 : Int32)), .val (.int (((p1.toUInt32 >>> ((1 : Int32) &&& 31).toUInt32).toInt32) &&& (3 : Int32))), .val .null, .val (.int (0 : Int32)), .val .null, .val (.ref t0), .val (.ref sd), .val (.long y1), .second, .val (.long y2), .second, .val (.long y3), .second, .val (.ref b1), .val (.int (0 : Int32))] [(.int (1 : Int32))]))
      refine ownVia (fun _ k => XS.goto X136.here hx rfl (pc0 := 155) (pc' := 159) rfl (hb hby at_155) (by decide) (by decide) k) ?_
      show ownFin _ _ _ _ _ (T136.setTop (mkF m 159 #[.val (.int p1), .val (.int p2), .val (.int p3), .val (.long q1), .second, .val (.long q2), .second, .val (.long q3), .second, .val (.int (0 : Int32)), .val (.int (((p1.toUInt32 >>> ((1 : Int32) &&& 31).toUInt32).toInt32) &&& (3 : Int32))), .val .null, .val (.int (0 : Int32)), .val .null, .val (.ref t0), .val (.ref sd), .val (.long y1), .second, .val (.long y2), .second, .val (.long y3), .second, .val (.ref b1), .val (.int (0 : Int32))] [(.int (1 : Int32))]))
      refine ownRetZW X136 hx hlk hS (by first | exact hk | (rw [e136]; exact hk)) hret (hb hby at_159) (by decide) (by decide) (Or.inr rfl) ?_
      show (Q_own_law Z p1 p2 p3 q1 q2 q3 h0 n0 cs0) (some (.int (1 : Int32))) T136.heap _
      rw [e136]
      exact ⟨rfl, N136⟩
    case neg =>
      have hc131I : ¬ (((p1.toUInt32 >>> ((3 : Int32) &&& 31).toUInt32).toInt32) &&& (1 : Int32)).toInt = 0 := fun q => hc131 ((own_eqi rfl (by decide)).mpr q)
      refine ownVia (fun _ k => XS.ifNo X0.here hx rfl (hb hby at_42) rfl ((if0 _ _).trans (feq hc131).1) k) ?_
      show ownFin _ _ _ _ _ (T0.setTop (mkF m 45 #[.val (.int p1), .val (.int p2), .val (.int p3), .val (.long q1), .second, .val (.long q2), .second, .val (.long q3), .second, .val (.int (0 : Int32)), .val (.int (((p1.toUInt32 >>> ((1 : Int32) &&& 31).toUInt32).toInt32) &&& (3 : Int32))), .val .null, .unset, .unset, .unset, .unset, .unset, .unset, .unset, .unset, .unset, .unset, .unset, .unset] []))
      refine ownVia (fun _ k => XS.iconst X0.here hx rfl (hb hby at_45) k) ?_
      show ownFin _ _ _ _ _ (T0.setTop (mkF m 46 #[.val (.int p1), .val (.int p2), .val (.int p3), .val (.long q1), .second, .val (.long q2), .second, .val (.long q3), .second, .val (.int (0 : Int32)), .val (.int (((p1.toUInt32 >>> ((1 : Int32) &&& 31).toUInt32).toInt32) &&& (3 : Int32))), .val .null, .unset, .unset, .unset, .unset, .unset, .unset, .unset, .unset, .unset, .unset, .unset, .unset] [(.int (1 : Int32))]))
      refine ownVia (fun _ k => XS.goto X0.here hx rfl (pc0 := 46) (pc' := 50) rfl (hb hby at_46) (by decide) (by decide) k) ?_
      show ownFin _ _ _ _ _ (T0.setTop (mkF m 50 #[.val (.int p1), .val (.int p2), .val (.int p3), .val (.long q1), .second, .val (.long q2), .second, .val (.long q3), .second, .val (.int (0 : Int32)), .val (.int (((p1.toUInt32 >>> ((1 : Int32) &&& 31).toUInt32).toInt32) &&& (3 : Int32))), .val .null, .unset, .unset, .unset, .unset, .unset, .unset, .unset, .unset, .unset, .unset, .unset, .unset] [(.int (1 : Int32))]))
      refine ownVia (fun _ k => XS.istore X0.here hx rfl (hb hby at_50) rfl (l' := #[.val (.int p1), .val (.int p2), .val (.int p3), .val (.long q1), .second, .val (.long q2), .second, .val (.long q3), .second, .val (.int (0 : Int32)), .val (.int (((p1.toUInt32 >>> ((1 : Int32) &&& 31).toUInt32).toInt32) &&& (3 : Int32))), .val .null, .val (.int (1 : Int32)), .unset, .unset, .unset, .unset, .unset, .unset, .unset, .unset, .unset, .unset, .unset]) rfl k) ?_
      show ownFin _ _ _ _ _ (T0.setTop (mkF m 52 #[.val (.int p1), .val (.int p2), .val (.int p3), .val (.long q1), .second, .val (.long q2), .second, .val (.long q3), .second, .val (.int (0 : Int32)), .val (.int (((p1.toUInt32 >>> ((1 : Int32) &&& 31).toUInt32).toInt32) &&& (3 : Int32))), .val .null, .val (.int (1 : Int32)), .unset, .unset, .unset, .unset, .unset, .unset, .unset, .unset, .unset, .unset, .unset] []))
      refine ownVia (fun _ k => XS.iload X0.here hx rfl (hb hby at_52) rfl k) ?_
      show ownFin _ _ _ _ _ (T0.setTop (mkF m 54 #[.val (.int p1), .val (.int p2), .val (.int p3), .val (.long q1), .second, .val (.long q2), .second, .val (.long q3), .second, .val (.int (0 : Int32)), .val (.int (((p1.toUInt32 >>> ((1 : Int32) &&& 31).toUInt32).toInt32) &&& (3 : Int32))), .val .null, .val (.int (1 : Int32)), .unset, .unset, .unset, .unset, .unset, .unset, .unset, .unset, .unset, .unset, .unset] [(.int (1 : Int32))]))
      refine ownVia (fun _ k => XS.ifNo X0.here hx rfl (hb hby at_54) rfl ((if0 _ _).trans (feq (by decide)).1) k) ?_
      show ownFin _ _ _ _ _ (T0.setTop (mkF m 57 #[.val (.int p1), .val (.int p2), .val (.int p3), .val (.long q1), .second, .val (.long q2), .second, .val (.long q3), .second, .val (.int (0 : Int32)), .val (.int (((p1.toUInt32 >>> ((1 : Int32) &&& 31).toUInt32).toInt32) &&& (3 : Int32))), .val .null, .val (.int (1 : Int32)), .unset, .unset, .unset, .unset, .unset, .unset, .unset, .unset, .unset, .unset, .unset] []))
      refine ownVia (fun _ k => XS.iloadN X0.here hx rfl (hb hby at_57) rfl k) ?_
      show ownFin _ _ _ _ _ (T0.setTop (mkF m 58 #[.val (.int p1), .val (.int p2), .val (.int p3), .val (.long q1), .second, .val (.long q2), .second, .val (.long q3), .second, .val (.int (0 : Int32)), .val (.int (((p1.toUInt32 >>> ((1 : Int32) &&& 31).toUInt32).toInt32) &&& (3 : Int32))), .val .null, .val (.int (1 : Int32)), .unset, .unset, .unset, .unset, .unset, .unset, .unset, .unset, .unset, .unset, .unset] [(.int p1)]))
      refine ownVia (fun _ k => XS.iconst X0.here hx rfl (hb hby at_58) k) ?_
      show ownFin _ _ _ _ _ (T0.setTop (mkF m 59 #[.val (.int p1), .val (.int p2), .val (.int p3), .val (.long q1), .second, .val (.long q2), .second, .val (.long q3), .second, .val (.int (0 : Int32)), .val (.int (((p1.toUInt32 >>> ((1 : Int32) &&& 31).toUInt32).toInt32) &&& (3 : Int32))), .val .null, .val (.int (1 : Int32)), .unset, .unset, .unset, .unset, .unset, .unset, .unset, .unset, .unset, .unset, .unset] [(.int (4 : Int32)), (.int p1)]))
      refine ownVia (fun _ k => XS.iushr X0.here hx rfl (hb hby at_59) rfl k) ?_
      show ownFin _ _ _ _ _ (T0.setTop (mkF m 60 #[.val (.int p1), .val (.int p2), .val (.int p3), .val (.long q1), .second, .val (.long q2), .second, .val (.long q3), .second, .val (.int (0 : Int32)), .val (.int (((p1.toUInt32 >>> ((1 : Int32) &&& 31).toUInt32).toInt32) &&& (3 : Int32))), .val .null, .val (.int (1 : Int32)), .unset, .unset, .unset, .unset, .unset, .unset, .unset, .unset, .unset, .unset, .unset] [(.int ((p1.toUInt32 >>> ((4 : Int32) &&& 31).toUInt32).toInt32))]))
      refine ownVia (fun _ k => XS.sipush X0.here hx rfl (hb hby at_60) k) ?_
      show ownFin _ _ _ _ _ (T0.setTop (mkF m 63 #[.val (.int p1), .val (.int p2), .val (.int p3), .val (.long q1), .second, .val (.long q2), .second, .val (.long q3), .second, .val (.int (0 : Int32)), .val (.int (((p1.toUInt32 >>> ((1 : Int32) &&& 31).toUInt32).toInt32) &&& (3 : Int32))), .val .null, .val (.int (1 : Int32)), .unset, .unset, .unset, .unset, .unset, .unset, .unset, .unset, .unset, .unset, .unset] [(.int (255 : Int32)), (.int ((p1.toUInt32 >>> ((4 : Int32) &&& 31).toUInt32).toInt32))]))
      refine ownVia (fun _ k => XS.iand X0.here hx rfl (hb hby at_63) rfl k) ?_
      show ownFin _ _ _ _ _ (T0.setTop (mkF m 64 #[.val (.int p1), .val (.int p2), .val (.int p3), .val (.long q1), .second, .val (.long q2), .second, .val (.long q3), .second, .val (.int (0 : Int32)), .val (.int (((p1.toUInt32 >>> ((1 : Int32) &&& 31).toUInt32).toInt32) &&& (3 : Int32))), .val .null, .val (.int (1 : Int32)), .unset, .unset, .unset, .unset, .unset, .unset, .unset, .unset, .unset, .unset, .unset] [(.int (((p1.toUInt32 >>> ((4 : Int32) &&& 31).toUInt32).toInt32) &&& (255 : Int32)))]))
      refine ownVia (fun _ k => XS.i2c X0.here hx rfl (hb hby at_64) rfl k) ?_
      show ownFin _ _ _ _ _ (T0.setTop (mkF m 65 #[.val (.int p1), .val (.int p2), .val (.int p3), .val (.long q1), .second, .val (.long q2), .second, .val (.long q3), .second, .val (.int (0 : Int32)), .val (.int (((p1.toUInt32 >>> ((1 : Int32) &&& 31).toUInt32).toInt32) &&& (3 : Int32))), .val .null, .val (.int (1 : Int32)), .unset, .unset, .unset, .unset, .unset, .unset, .unset, .unset, .unset, .unset, .unset] [(.int ((((p1.toUInt32 >>> ((4 : Int32) &&& 31).toUInt32).toInt32) &&& (255 : Int32)).toUInt32.toUInt16.toUInt32.toInt32))]))
      refine ownCallS X0 hx hZ hown (hw _ (List.mem_of_getElem? (i := 0) rfl)) (hw _ (List.mem_of_getElem? (i := 1) rfl)) (hw _ (List.mem_of_getElem? (i := 2) rfl)) (hw _ (List.mem_of_getElem? (i := 3) rfl)) (by decide) e0 (own_vof l Z a0 hw ((((p1.toUInt32 >>> ((4 : Int32) &&& 31).toUInt32).toInt32) &&& (255 : Int32)).toUInt32.toUInt16.toUInt32.toInt32) h0 n0 cs0 Z0 O S_c hcs (own_ch _).2) (by rw [hml]; rfl) [(.int ((((p1.toUInt32 >>> ((4 : Int32) &&& 31).toUInt32).toInt32) &&& (255 : Int32)).toUInt32.toUInt16.toUInt32.toInt32))] [] (lenOf own_pd10 rfl) rfl rfl 0 rfl (hb hby at_65) (by decide) (by decide) (by decide) (by decide) ?_
      intro v137 T137 L137 X137 hq137
      obtain ⟨t0, rfl, N137q, K137, sq137⟩ := hq137
      have Z0 := Nat.le_trans Z0 K137.1
      have hk := Nat.le_trans hk K137.1
      have O := O.keep K137 all0
      have N137 := Fr.app N0 N137q
      show ownFin _ _ _ _ _ (T137.setTop (mkF m 68 #[.val (.int p1), .val (.int p2), .val (.int p3), .val (.long q1), .second, .val (.long q2), .second, .val (.long q3), .second, .val (.int (0 : Int32)), .val (.int (((p1.toUInt32 >>> ((1 : Int32) &&& 31).toUInt32).toInt32) &&& (3 : Int32))), .val .null, .val (.int (1 : Int32)), .unset, .unset, .unset, .unset, .unset, .unset, .unset, .unset, .unset, .unset, .unset] [(.ref t0)]))
      refine ownVia (fun _ k => XS.goto X137.here hx rfl (pc0 := 68) (pc' := 72) rfl (hb hby at_68) (by decide) (by decide) k) ?_
      show ownFin _ _ _ _ _ (T137.setTop (mkF m 72 #[.val (.int p1), .val (.int p2), .val (.int p3), .val (.long q1), .second, .val (.long q2), .second, .val (.long q3), .second, .val (.int (0 : Int32)), .val (.int (((p1.toUInt32 >>> ((1 : Int32) &&& 31).toUInt32).toInt32) &&& (3 : Int32))), .val .null, .val (.int (1 : Int32)), .unset, .unset, .unset, .unset, .unset, .unset, .unset, .unset, .unset, .unset, .unset] [(.ref t0)]))
      refine ownVia (fun _ k => XS.astore X137.here hx rfl (hb hby at_72) rfl rfl (l' := #[.val (.int p1), .val (.int p2), .val (.int p3), .val (.long q1), .second, .val (.long q2), .second, .val (.long q3), .second, .val (.int (0 : Int32)), .val (.int (((p1.toUInt32 >>> ((1 : Int32) &&& 31).toUInt32).toInt32) &&& (3 : Int32))), .val .null, .val (.int (1 : Int32)), .val (.ref t0), .unset, .unset, .unset, .unset, .unset, .unset, .unset, .unset, .unset, .unset]) rfl k) ?_
      show ownFin _ _ _ _ _ (T137.setTop (mkF m 74 #[.val (.int p1), .val (.int p2), .val (.int p3), .val (.long q1), .second, .val (.long q2), .second, .val (.long q3), .second, .val (.int (0 : Int32)), .val (.int (((p1.toUInt32 >>> ((1 : Int32) &&& 31).toUInt32).toInt32) &&& (3 : Int32))), .val .null, .val (.int (1 : Int32)), .val (.ref t0), .unset, .unset, .unset, .unset, .unset, .unset, .unset, .unset, .unset, .unset] []))
      refine ownVia (fun _ k => XS.iloadN X137.here hx rfl (hb hby at_74) rfl k) ?_
      show ownFin _ _ _ _ _ (T137.setTop (mkF m 75 #[.val (.int p1), .val (.int p2), .val (.int p3), .val (.long q1), .second, .val (.long q2), .second, .val (.long q3), .second, .val (.int (0 : Int32)), .val (.int (((p1.toUInt32 >>> ((1 : Int32) &&& 31).toUInt32).toInt32) &&& (3 : Int32))), .val .null, .val (.int (1 : Int32)), .val (.ref t0), .unset, .unset, .unset, .unset, .unset, .unset, .unset, .unset, .unset, .unset] [(.int p2)]))
      refine ownVia (fun _ k => XS.bipush X137.here hx rfl (hb hby at_75) k) ?_
      show ownFin _ _ _ _ _ (T137.setTop (mkF m 77 #[.val (.int p1), .val (.int p2), .val (.int p3), .val (.long q1), .second, .val (.long q2), .second, .val (.long q3), .second, .val (.int (0 : Int32)), .val (.int (((p1.toUInt32 >>> ((1 : Int32) &&& 31).toUInt32).toInt32) &&& (3 : Int32))), .val .null, .val (.int (1 : Int32)), .val (.ref t0), .unset, .unset, .unset, .unset, .unset, .unset, .unset, .unset, .unset, .unset] [(.int (8 : Int32)), (.int p2)]))
      refine ownVia (fun _ k => XS.iushr X137.here hx rfl (hb hby at_77) rfl k) ?_
      show ownFin _ _ _ _ _ (T137.setTop (mkF m 78 #[.val (.int p1), .val (.int p2), .val (.int p3), .val (.long q1), .second, .val (.long q2), .second, .val (.long q3), .second, .val (.int (0 : Int32)), .val (.int (((p1.toUInt32 >>> ((1 : Int32) &&& 31).toUInt32).toInt32) &&& (3 : Int32))), .val .null, .val (.int (1 : Int32)), .val (.ref t0), .unset, .unset, .unset, .unset, .unset, .unset, .unset, .unset, .unset, .unset] [(.int ((p2.toUInt32 >>> ((8 : Int32) &&& 31).toUInt32).toInt32))]))
      refine ownVia (fun _ k => XS.sipush X137.here hx rfl (hb hby at_78) k) ?_
      show ownFin _ _ _ _ _ (T137.setTop (mkF m 81 #[.val (.int p1), .val (.int p2), .val (.int p3), .val (.long q1), .second, .val (.long q2), .second, .val (.long q3), .second, .val (.int (0 : Int32)), .val (.int (((p1.toUInt32 >>> ((1 : Int32) &&& 31).toUInt32).toInt32) &&& (3 : Int32))), .val .null, .val (.int (1 : Int32)), .val (.ref t0), .unset, .unset, .unset, .unset, .unset, .unset, .unset, .unset, .unset, .unset] [(.int (255 : Int32)), (.int ((p2.toUInt32 >>> ((8 : Int32) &&& 31).toUInt32).toInt32))]))
      refine ownVia (fun _ k => XS.iand X137.here hx rfl (hb hby at_81) rfl k) ?_
      show ownFin _ _ _ _ _ (T137.setTop (mkF m 82 #[.val (.int p1), .val (.int p2), .val (.int p3), .val (.long q1), .second, .val (.long q2), .second, .val (.long q3), .second, .val (.int (0 : Int32)), .val (.int (((p1.toUInt32 >>> ((1 : Int32) &&& 31).toUInt32).toInt32) &&& (3 : Int32))), .val .null, .val (.int (1 : Int32)), .val (.ref t0), .unset, .unset, .unset, .unset, .unset, .unset, .unset, .unset, .unset, .unset] [(.int (((p2.toUInt32 >>> ((8 : Int32) &&& 31).toUInt32).toInt32) &&& (255 : Int32)))]))
      refine ownVia (fun _ k => XS.i2c X137.here hx rfl (hb hby at_82) rfl k) ?_
      show ownFin _ _ _ _ _ (T137.setTop (mkF m 83 #[.val (.int p1), .val (.int p2), .val (.int p3), .val (.long q1), .second, .val (.long q2), .second, .val (.long q3), .second, .val (.int (0 : Int32)), .val (.int (((p1.toUInt32 >>> ((1 : Int32) &&& 31).toUInt32).toInt32) &&& (3 : Int32))), .val .null, .val (.int (1 : Int32)), .val (.ref t0), .unset, .unset, .unset, .unset, .unset, .unset, .unset, .unset, .unset, .unset] [(.int ((((p2.toUInt32 >>> ((8 : Int32) &&& 31).toUInt32).toInt32) &&& (255 : Int32)).toUInt32.toUInt16.toUInt32.toInt32))]))
      refine ownCallS X137 hx hZ hown (hw _ (List.mem_of_getElem? (i := 0) rfl)) (hw _ (List.mem_of_getElem? (i := 1) rfl)) (hw _ (List.mem_of_getElem? (i := 2) rfl)) (hw _ (List.mem_of_getElem? (i := 3) rfl)) (by decide) (rfl : T137.heap = T137.heap) (own_vof l Z a0 hw ((((p2.toUInt32 >>> ((8 : Int32) &&& 31).toUInt32).toInt32) &&& (255 : Int32)).toUInt32.toUInt16.toUInt32.toInt32) T137.heap n0 cs0 Z0 O S_c hcs (own_ch _).2) (by rw [hml]; rfl) [(.int ((((p2.toUInt32 >>> ((8 : Int32) &&& 31).toUInt32).toInt32) &&& (255 : Int32)).toUInt32.toUInt16.toUInt32.toInt32))] [] (lenOf own_pd10 rfl) rfl rfl 0 rfl (hb hby at_83) (by decide) (by decide) (by decide) (by decide) ?_
      intro v138 T138 L138 X138 hq138
      obtain ⟨t1, rfl, N138q, K138, sq138⟩ := hq138
      have Z0 := Nat.le_trans Z0 K138.1
      have hk := Nat.le_trans hk K138.1
      have O := O.keep K138 all0
      have N138 := Fr.app N137 N138q
      show ownFin _ _ _ _ _ (T138.setTop (mkF m 86 #[.val (.int p1), .val (.int p2), .val (.int p3), .val (.long q1), .second, .val (.long q2), .second, .val (.long q3), .second, .val (.int (0 : Int32)), .val (.int (((p1.toUInt32 >>> ((1 : Int32) &&& 31).toUInt32).toInt32) &&& (3 : Int32))), .val .null, .val (.int (1 : Int32)), .val (.ref t0), .unset, .unset, .unset, .unset, .unset, .unset, .unset, .unset, .unset, .unset] [(.ref t1)]))
      refine ownVia (fun _ k => XS.astore X138.here hx rfl (hb hby at_86) rfl rfl (l' := #[.val (.int p1), .val (.int p2), .val (.int p3), .val (.long q1), .second, .val (.long q2), .second, .val (.long q3), .second, .val (.int (0 : Int32)), .val (.int (((p1.toUInt32 >>> ((1 : Int32) &&& 31).toUInt32).toInt32) &&& (3 : Int32))), .val .null, .val (.int (1 : Int32)), .val (.ref t0), .val (.ref t1), .unset, .unset, .unset, .unset, .unset, .unset, .unset, .unset, .unset]) rfl k) ?_
      show ownFin _ _ _ _ _ (T138.setTop (mkF m 88 #[.val (.int p1), .val (.int p2), .val (.int p3), .val (.long q1), .second, .val (.long q2), .second, .val (.long q3), .second, .val (.int (0 : Int32)), .val (.int (((p1.toUInt32 >>> ((1 : Int32) &&& 31).toUInt32).toInt32) &&& (3 : Int32))), .val .null, .val (.int (1 : Int32)), .val (.ref t0), .val (.ref t1), .unset, .unset, .unset, .unset, .unset, .unset, .unset, .unset, .unset] []))
      refine ownVia (fun _ k => XS.iloadN X138.here hx rfl (hb hby at_88) rfl k) ?_
      show ownFin _ _ _ _ _ (T138.setTop (mkF m 89 #[.val (.int p1), .val (.int p2), .val (.int p3), .val (.long q1), .second, .val (.long q2), .second, .val (.long q3), .second, .val (.int (0 : Int32)), .val (.int (((p1.toUInt32 >>> ((1 : Int32) &&& 31).toUInt32).toInt32) &&& (3 : Int32))), .val .null, .val (.int (1 : Int32)), .val (.ref t0), .val (.ref t1), .unset, .unset, .unset, .unset, .unset, .unset, .unset, .unset, .unset] [(.int p2)]))
      refine ownCallS X138 hx hZ hown (hw _ (List.mem_of_getElem? (i := 26) rfl)) (hw _ (List.mem_of_getElem? (i := 27) rfl)) (hw _ (List.mem_of_getElem? (i := 28) rfl)) (hw _ (List.mem_of_getElem? (i := 29) rfl)) (by decide) (rfl : T138.heap = T138.heap) (own_std l Z a0 hw p2 T138.heap n0 Z0 (by obtain ⟨z, q⟩ := k0; exact ⟨z, q.ext O.2⟩) (by obtain ⟨z, q⟩ := k1; exact ⟨z, q.ext O.2⟩) (by obtain ⟨z, q⟩ := k2; exact ⟨z, q.ext O.2⟩) (by obtain ⟨z, q⟩ := k3; exact ⟨z, q.ext O.2⟩) (by obtain ⟨z, q⟩ := k4; exact ⟨z, q.ext O.2⟩) (by obtain ⟨z, q⟩ := k5; exact ⟨z, q.ext O.2⟩) (by obtain ⟨z, q⟩ := k6; exact ⟨z, q.ext O.2⟩)) (by rw [hml]; rfl) [(.int p2)] [] (lenOf own_pd11 rfl) rfl rfl 0 rfl (hb hby at_89) (by decide) (by decide) (by decide) (by decide) ?_
      intro v139 T139 L139 X139 hq139
      obtain ⟨sd, rfl, N139q, eq139⟩ := hq139
      have N139 := Fr.app N138 N139q
      have e139 : T139.heap = T138.heap := eq139
      show ownFin _ _ _ _ _ (T139.setTop (mkF m 92 #[.val (.int p1), .val (.int p2), .val (.int p3), .val (.long q1), .second, .val (.long q2), .second, .val (.long q3), .second, .val (.int (0 : Int32)), .val (.int (((p1.toUInt32 >>> ((1 : Int32) &&& 31).toUInt32).toInt32) &&& (3 : Int32))), .val .null, .val (.int (1 : Int32)), .val (.ref t0), .val (.ref t1), .unset, .unset, .unset, .unset, .unset, .unset, .unset, .unset, .unset] [(.ref sd)]))
      refine ownVia (fun _ k => XS.astore X139.here hx rfl (hb hby at_92) rfl rfl (l' := #[.val (.int p1), .val (.int p2), .val (.int p3), .val (.long q1), .second, .val (.long q2), .second, .val (.long q3), .second, .val (.int (0 : Int32)), .val (.int (((p1.toUInt32 >>> ((1 : Int32) &&& 31).toUInt32).toInt32) &&& (3 : Int32))), .val .null, .val (.int (1 : Int32)), .val (.ref t0), .val (.ref t1), .val (.ref sd), .unset, .unset, .unset, .unset, .unset, .unset, .unset, .unset]) rfl k) ?_
      show ownFin _ _ _ _ _ (T139.setTop (mkF m 94 #[.val (.int p1), .val (.int p2), .val (.int p3), .val (.long q1), .second, .val (.long q2), .second, .val (.long q3), .second, .val (.int (0 : Int32)), .val (.int (((p1.toUInt32 >>> ((1 : Int32) &&& 31).toUInt32).toInt32) &&& (3 : Int32))), .val .null, .val (.int (1 : Int32)), .val (.ref t0), .val (.ref t1), .val (.ref sd), .unset, .unset, .unset, .unset, .unset, .unset, .unset, .unset] []))
      refine ownVia (fun _ k => XS.lloadN X139.here hx rfl (hb hby at_94) rfl k) ?_
      show ownFin _ _ _ _ _ (T139.setTop (mkF m 95 #[.val (.int p1), .val (.int p2), .val (.int p3), .val (.long q1), .second, .val (.long q2), .second, .val (.long q3), .second, .val (.int (0 : Int32)), .val (.int (((p1.toUInt32 >>> ((1 : Int32) &&& 31).toUInt32).toInt32) &&& (3 : Int32))), .val .null, .val (.int (1 : Int32)), .val (.ref t0), .val (.ref t1), .val (.ref sd), .unset, .unset, .unset, .unset, .unset, .unset, .unset, .unset] [(.long q1)]))
      refine ownVia (fun _ k => X139.ldc2Long hx hown (mvT hZ (hw _ (List.mem_of_getElem? (i := 34) rfl))) (g := (mkF m 95 #[.val (.int p1), .val (.int p2), .val (.int p3), .val (.long q1), .second, .val (.long q2), .second, .val (.long q3), .second, .val (.int (0 : Int32)), .val (.int (((p1.toUInt32 >>> ((1 : Int32) &&& 31).toUInt32).toInt32) &&& (3 : Int32))), .val .null, .val (.int (1 : Int32)), .val (.ref t0), .val (.ref t1), .val (.ref sd), .unset, .unset, .unset, .unset, .unset, .unset, .unset, .unset] [(.long q1)])) rfl (hb hby at_95) _ k) ?_
      show ownFin _ _ _ _ _ (T139.setTop (mkF m 98 #[.val (.int p1), .val (.int p2), .val (.int p3), .val (.long q1), .second, .val (.long q2), .second, .val (.long q3), .second, .val (.int (0 : Int32)), .val (.int (((p1.toUInt32 >>> ((1 : Int32) &&& 31).toUInt32).toInt32) &&& (3 : Int32))), .val .null, .val (.int (1 : Int32)), .val (.ref t0), .val (.ref t1), .val (.ref sd), .unset, .unset, .unset, .unset, .unset, .unset, .unset, .unset] [(.long (2147483648 : Int64)), (.long q1)]))
      refine ownVia (fun _ k => XS.lrem X139.here hx rfl (hb hby at_98) rfl (by decide) k) ?_
      show ownFin _ _ _ _ _ (T139.setTop (mkF m 99 #[.val (.int p1), .val (.int p2), .val (.int p3), .val (.long q1), .second, .val (.long q2), .second, .val (.long q3), .second, .val (.int (0 : Int32)), .val (.int (((p1.toUInt32 >>> ((1 : Int32) &&& 31).toUInt32).toInt32) &&& (3 : Int32))), .val .null, .val (.int (1 : Int32)), .val (.ref t0), .val (.ref t1), .val (.ref sd), .unset, .unset, .unset, .unset, .unset, .unset, .unset, .unset] [(.long (q1 - (q1 / (2147483648 : Int64)) * (2147483648 : Int64)))]))
      refine ownVia (fun _ k => XS.lstore X139.here hx rfl (hb hby at_99) rfl (l' := #[.val (.int p1), .val (.int p2), .val (.int p3), .val (.long q1), .second, .val (.long q2), .second, .val (.long q3), .second, .val (.int (0 : Int32)), .val (.int (((p1.toUInt32 >>> ((1 : Int32) &&& 31).toUInt32).toInt32) &&& (3 : Int32))), .val .null, .val (.int (1 : Int32)), .val (.ref t0), .val (.ref t1), .val (.ref sd), .val (.long (q1 - (q1 / (2147483648 : Int64)) * (2147483648 : Int64))), .second, .unset, .unset, .unset, .unset, .unset, .unset]) rfl k) ?_
      show ownFin _ _ _ _ _ (T139.setTop (mkF m 101 #[.val (.int p1), .val (.int p2), .val (.int p3), .val (.long q1), .second, .val (.long q2), .second, .val (.long q3), .second, .val (.int (0 : Int32)), .val (.int (((p1.toUInt32 >>> ((1 : Int32) &&& 31).toUInt32).toInt32) &&& (3 : Int32))), .val .null, .val (.int (1 : Int32)), .val (.ref t0), .val (.ref t1), .val (.ref sd), .val (.long (q1 - (q1 / (2147483648 : Int64)) * (2147483648 : Int64))), .second, .unset, .unset, .unset, .unset, .unset, .unset] []))
      refine ownVia (fun _ k => XS.lload X139.here hx rfl (hb hby at_101) rfl k) ?_
      show ownFin _ _ _ _ _ (T139.setTop (mkF m 103 #[.val (.int p1), .val (.int p2), .val (.int p3), .val (.long q1), .second, .val (.long q2), .second, .val (.long q3), .second, .val (.int (0 : Int32)), .val (.int (((p1.toUInt32 >>> ((1 : Int32) &&& 31).toUInt32).toInt32) &&& (3 : Int32))), .val .null, .val (.int (1 : Int32)), .val (.ref t0), .val (.ref t1), .val (.ref sd), .val (.long (q1 - (q1 / (2147483648 : Int64)) * (2147483648 : Int64))), .second, .unset, .unset, .unset, .unset, .unset, .unset] [(.long q2)]))
      refine ownVia (fun _ k => X139.ldc2Long hx hown (mvT hZ (hw _ (List.mem_of_getElem? (i := 34) rfl))) (g := (mkF m 103 #[.val (.int p1), .val (.int p2), .val (.int p3), .val (.long q1), .second, .val (.long q2), .second, .val (.long q3), .second, .val (.int (0 : Int32)), .val (.int (((p1.toUInt32 >>> ((1 : Int32) &&& 31).toUInt32).toInt32) &&& (3 : Int32))), .val .null, .val (.int (1 : Int32)), .val (.ref t0), .val (.ref t1), .val (.ref sd), .val (.long (q1 - (q1 / (2147483648 : Int64)) * (2147483648 : Int64))), .second, .unset, .unset, .unset, .unset, .unset, .unset] [(.long q2)])) rfl (hb hby at_103) _ k) ?_
      show ownFin _ _ _ _ _ (T139.setTop (mkF m 106 #[.val (.int p1), .val (.int p2), .val (.int p3), .val (.long q1), .second, .val (.long q2), .second, .val (.long q3), .second, .val (.int (0 : Int32)), .val (.int (((p1.toUInt32 >>> ((1 : Int32) &&& 31).toUInt32).toInt32) &&& (3 : Int32))), .val .null, .val (.int (1 : Int32)), .val (.ref t0), .val (.ref t1), .val (.ref sd), .val (.long (q1 - (q1 / (2147483648 : Int64)) * (2147483648 : Int64))), .second, .unset, .unset, .unset, .unset, .unset, .unset] [(.long (2147483648 : Int64)), (.long q2)]))
      refine ownVia (fun _ k => XS.lrem X139.here hx rfl (hb hby at_106) rfl (by decide) k) ?_
      show ownFin _ _ _ _ _ (T139.setTop (mkF m 107 #[.val (.int p1), .val (.int p2), .val (.int p3), .val (.long q1), .second, .val (.long q2), .second, .val (.long q3), .second, .val (.int (0 : Int32)), .val (.int (((p1.toUInt32 >>> ((1 : Int32) &&& 31).toUInt32).toInt32) &&& (3 : Int32))), .val .null, .val (.int (1 : Int32)), .val (.ref t0), .val (.ref t1), .val (.ref sd), .val (.long (q1 - (q1 / (2147483648 : Int64)) * (2147483648 : Int64))), .second, .unset, .unset, .unset, .unset, .unset, .unset] [(.long (q2 - (q2 / (2147483648 : Int64)) * (2147483648 : Int64)))]))
      refine ownVia (fun _ k => XS.lstore X139.here hx rfl (hb hby at_107) rfl (l' := #[.val (.int p1), .val (.int p2), .val (.int p3), .val (.long q1), .second, .val (.long q2), .second, .val (.long q3), .second, .val (.int (0 : Int32)), .val (.int (((p1.toUInt32 >>> ((1 : Int32) &&& 31).toUInt32).toInt32) &&& (3 : Int32))), .val .null, .val (.int (1 : Int32)), .val (.ref t0), .val (.ref t1), .val (.ref sd), .val (.long (q1 - (q1 / (2147483648 : Int64)) * (2147483648 : Int64))), .second, .val (.long (q2 - (q2 / (2147483648 : Int64)) * (2147483648 : Int64))), .second, .unset, .unset, .unset, .unset]) rfl k) ?_
      show ownFin _ _ _ _ _ (T139.setTop (mkF m 109 #[.val (.int p1), .val (.int p2), .val (.int p3), .val (.long q1), .second, .val (.long q2), .second, .val (.long q3), .second, .val (.int (0 : Int32)), .val (.int (((p1.toUInt32 >>> ((1 : Int32) &&& 31).toUInt32).toInt32) &&& (3 : Int32))), .val .null, .val (.int (1 : Int32)), .val (.ref t0), .val (.ref t1), .val (.ref sd), .val (.long (q1 - (q1 / (2147483648 : Int64)) * (2147483648 : Int64))), .second, .val (.long (q2 - (q2 / (2147483648 : Int64)) * (2147483648 : Int64))), .second, .unset, .unset, .unset, .unset] []))
      refine ownVia (fun _ k => XS.lload X139.here hx rfl (hb hby at_109) rfl k) ?_
      show ownFin _ _ _ _ _ (T139.setTop (mkF m 111 #[.val (.int p1), .val (.int p2), .val (.int p3), .val (.long q1), .second, .val (.long q2), .second, .val (.long q3), .second, .val (.int (0 : Int32)), .val (.int (((p1.toUInt32 >>> ((1 : Int32) &&& 31).toUInt32).toInt32) &&& (3 : Int32))), .val .null, .val (.int (1 : Int32)), .val (.ref t0), .val (.ref t1), .val (.ref sd), .val (.long (q1 - (q1 / (2147483648 : Int64)) * (2147483648 : Int64))), .second, .val (.long (q2 - (q2 / (2147483648 : Int64)) * (2147483648 : Int64))), .second, .unset, .unset, .unset, .unset] [(.long q3)]))
      refine ownVia (fun _ k => X139.ldc2Long hx hown (mvT hZ (hw _ (List.mem_of_getElem? (i := 34) rfl))) (g := (mkF m 111 #[.val (.int p1), .val (.int p2), .val (.int p3), .val (.long q1), .second, .val (.long q2), .second, .val (.long q3), .second, .val (.int (0 : Int32)), .val (.int (((p1.toUInt32 >>> ((1 : Int32) &&& 31).toUInt32).toInt32) &&& (3 : Int32))), .val .null, .val (.int (1 : Int32)), .val (.ref t0), .val (.ref t1), .val (.ref sd), .val (.long (q1 - (q1 / (2147483648 : Int64)) * (2147483648 : Int64))), .second, .val (.long (q2 - (q2 / (2147483648 : Int64)) * (2147483648 : Int64))), .second, .unset, .unset, .unset, .unset] [(.long q3)])) rfl (hb hby at_111) _ k) ?_
      show ownFin _ _ _ _ _ (T139.setTop (mkF m 114 #[.val (.int p1), .val (.int p2), .val (.int p3), .val (.long q1), .second, .val (.long q2), .second, .val (.long q3), .second, .val (.int (0 : Int32)), .val (.int (((p1.toUInt32 >>> ((1 : Int32) &&& 31).toUInt32).toInt32) &&& (3 : Int32))), .val .null, .val (.int (1 : Int32)), .val (.ref t0), .val (.ref t1), .val (.ref sd), .val (.long (q1 - (q1 / (2147483648 : Int64)) * (2147483648 : Int64))), .second, .val (.long (q2 - (q2 / (2147483648 : Int64)) * (2147483648 : Int64))), .second, .unset, .unset, .unset, .unset] [(.long (2147483648 : Int64)), (.long q3)]))
      refine ownVia (fun _ k => XS.lrem X139.here hx rfl (hb hby at_114) rfl (by decide) k) ?_
      show ownFin _ _ _ _ _ (T139.setTop (mkF m 115 #[.val (.int p1), .val (.int p2), .val (.int p3), .val (.long q1), .second, .val (.long q2), .second, .val (.long q3), .second, .val (.int (0 : Int32)), .val (.int (((p1.toUInt32 >>> ((1 : Int32) &&& 31).toUInt32).toInt32) &&& (3 : Int32))), .val .null, .val (.int (1 : Int32)), .val (.ref t0), .val (.ref t1), .val (.ref sd), .val (.long (q1 - (q1 / (2147483648 : Int64)) * (2147483648 : Int64))), .second, .val (.long (q2 - (q2 / (2147483648 : Int64)) * (2147483648 : Int64))), .second, .unset, .unset, .unset, .unset] [(.long (q3 - (q3 / (2147483648 : Int64)) * (2147483648 : Int64)))]))
      refine ownVia (fun _ k => XS.lstore X139.here hx rfl (hb hby at_115) rfl (l' := #[.val (.int p1), .val (.int p2), .val (.int p3), .val (.long q1), .second, .val (.long q2), .second, .val (.long q3), .second, .val (.int (0 : Int32)), .val (.int (((p1.toUInt32 >>> ((1 : Int32) &&& 31).toUInt32).toInt32) &&& (3 : Int32))), .val .null, .val (.int (1 : Int32)), .val (.ref t0), .val (.ref t1), .val (.ref sd), .val (.long (q1 - (q1 / (2147483648 : Int64)) * (2147483648 : Int64))), .second, .val (.long (q2 - (q2 / (2147483648 : Int64)) * (2147483648 : Int64))), .second, .val (.long (q3 - (q3 / (2147483648 : Int64)) * (2147483648 : Int64))), .second, .unset, .unset]) rfl k) ?_
      show ownFin _ _ _ _ _ (T139.setTop (mkF m 117 #[.val (.int p1), .val (.int p2), .val (.int p3), .val (.long q1), .second, .val (.long q2), .second, .val (.long q3), .second, .val (.int (0 : Int32)), .val (.int (((p1.toUInt32 >>> ((1 : Int32) &&& 31).toUInt32).toInt32) &&& (3 : Int32))), .val .null, .val (.int (1 : Int32)), .val (.ref t0), .val (.ref t1), .val (.ref sd), .val (.long (q1 - (q1 / (2147483648 : Int64)) * (2147483648 : Int64))), .second, .val (.long (q2 - (q2 / (2147483648 : Int64)) * (2147483648 : Int64))), .second, .val (.long (q3 - (q3 / (2147483648 : Int64)) * (2147483648 : Int64))), .second, .unset, .unset] []))
      have hq1 := own_rem q1
      generalize h_y1 : (q1 - (q1 / (2147483648 : Int64)) * (2147483648 : Int64)) = y1
      show ownFin _ _ _ _ _ (T139.setTop (mkF m 117 #[.val (.int p1), .val (.int p2), .val (.int p3), .val (.long q1), .second, .val (.long q2), .second, .val (.long q3), .second, .val (.int (0 : Int32)), .val (.int (((p1.toUInt32 >>> ((1 : Int32) &&& 31).toUInt32).toInt32) &&& (3 : Int32))), .val .null, .val (.int (1 : Int32)), .val (.ref t0), .val (.ref t1), .val (.ref sd), .val (.long y1), .second, .val (.long (q2 - (q2 / (2147483648 : Int64)) * (2147483648 : Int64))), .second, .val (.long (q3 - (q3 / (2147483648 : Int64)) * (2147483648 : Int64))), .second, .unset, .unset] []))
      rw [h_y1] at hq1
      have hq2 := own_rem q2
      generalize h_y2 : (q2 - (q2 / (2147483648 : Int64)) * (2147483648 : Int64)) = y2
      show ownFin _ _ _ _ _ (T139.setTop (mkF m 117 #[.val (.int p1), .val (.int p2), .val (.int p3), .val (.long q1), .second, .val (.long q2), .second, .val (.long q3), .second, .val (.int (0 : Int32)), .val (.int (((p1.toUInt32 >>> ((1 : Int32) &&& 31).toUInt32).toInt32) &&& (3 : Int32))), .val .null, .val (.int (1 : Int32)), .val (.ref t0), .val (.ref t1), .val (.ref sd), .val (.long y1), .second, .val (.long y2), .second, .val (.long (q3 - (q3 / (2147483648 : Int64)) * (2147483648 : Int64))), .second, .unset, .unset] []))
      rw [h_y2] at hq2
      have hq3 := own_rem q3
      generalize h_y3 : (q3 - (q3 / (2147483648 : Int64)) * (2147483648 : Int64)) = y3
      show ownFin _ _ _ _ _ (T139.setTop (mkF m 117 #[.val (.int p1), .val (.int p2), .val (.int p3), .val (.long q1), .second, .val (.long q2), .second, .val (.long q3), .second, .val (.int (0 : Int32)), .val (.int (((p1.toUInt32 >>> ((1 : Int32) &&& 31).toUInt32).toInt32) &&& (3 : Int32))), .val .null, .val (.int (1 : Int32)), .val (.ref t0), .val (.ref t1), .val (.ref sd), .val (.long y1), .second, .val (.long y2), .second, .val (.long y3), .second, .unset, .unset] []))
      rw [h_y3] at hq3
      obtain ⟨T140, h140, X140, e140, E140, A140, D140, -, st140⟩ := newO X139 hx hZ hown (hw _ (List.mem_of_getElem? (i := 35) rfl)) (hw _ (List.mem_of_getElem? (i := 36) rfl)) (hw _ (List.mem_of_getElem? (i := 37) rfl)) e139 (g := (mkF m 117 #[.val (.int p1), .val (.int p2), .val (.int p3), .val (.long q1), .second, .val (.long q2), .second, .val (.long q3), .second, .val (.int (0 : Int32)), .val (.int (((p1.toUInt32 >>> ((1 : Int32) &&& 31).toUInt32).toInt32) &&& (3 : Int32))), .val .null, .val (.int (1 : Int32)), .val (.ref t0), .val (.ref t1), .val (.ref sd), .val (.long y1), .second, .val (.long y2), .second, .val (.long y3), .second, .unset, .unset] [])) rfl (hb hby at_117) (by decide) (by decide)
      obtain ⟨b1, g140⟩ : ∃ z, z = T138.heap.size := ⟨_, rfl⟩
      rw [← g140] at A140 D140 st140
      have ge_b1 : n0 ≤ b1 := Nat.le_trans Z0 (Nat.le_of_eq g140.symm)
      have O := O.ext E140
      have Z0 := own_sz Z0 E140
      have hk := own_sz hk E140
      have E_b1 := A140
      have F_b1_outTradeNo : Fld Z h140 b1 "com/example/tillbridge/tillbridge/channel/Bill$Line" "outTradeNo" "Ljava/lang/String;" .null := D140 (Or.inr (hw _ (List.mem_of_getElem? (i := 54) rfl))) (ty := (.object "java/lang/String")) (by decide)
      have F_b1_outRefundNo : Fld Z h140 b1 "com/example/tillbridge/tillbridge/channel/Bill$Line" "outRefundNo" "Ljava/lang/String;" .null := D140 (Or.inr (hw _ (List.mem_of_getElem? (i := 56) rfl))) (ty := (.object "java/lang/String")) (by decide)
      have F_b1_state : Fld Z h140 b1 "com/example/tillbridge/tillbridge/channel/Bill$Line" "state" "Ljava/lang/String;" .null := D140 (Or.inr (hw _ (List.mem_of_getElem? (i := 58) rfl))) (ty := (.object "java/lang/String")) (by decide)
      have F_b1_standing : Fld Z h140 b1 "com/example/tillbridge/tillbridge/channel/Bill$Line" "standing" "Lcom/example/tillbridge/tillbridge/channel/Bill$Standing;" .null := D140 (Or.inr (hw _ (List.mem_of_getElem? (i := 60) rfl))) (ty := (.object "com/example/tillbridge/tillbridge/channel/Bill$Standing")) (by decide)
      have F_b1_amount : Fld Z h140 b1 "com/example/tillbridge/tillbridge/channel/Bill$Line" "amount" "J" (.long (0 : Int64)) := D140 (Or.inr (hw _ (List.mem_of_getElem? (i := 62) rfl))) (ty := .long) (by decide)
      have F_b1_couponRefund : Fld Z h140 b1 "com/example/tillbridge/tillbridge/channel/Bill$Line" "couponRefund" "J" (.long (0 : Int64)) := D140 (Or.inr (hw _ (List.mem_of_getElem? (i := 64) rfl))) (ty := .long) (by decide)
      have F_b1_fee : Fld Z h140 b1 "com/example/tillbridge/tillbridge/channel/Bill$Line" "fee" "J" (.long (0 : Int64)) := D140 (Or.inr (hw _ (List.mem_of_getElem? (i := 66) rfl))) (ty := .long) (by decide)
      refine ownVia st140 ?_
      show ownFin _ _ _ _ _ (T140.setTop (mkF m 120 #[.val (.int p1), .val (.int p2), .val (.int p3), .val (.long q1), .second, .val (.long q2), .second, .val (.long q3), .second, .val (.int (0 : Int32)), .val (.int (((p1.toUInt32 >>> ((1 : Int32) &&& 31).toUInt32).toInt32) &&& (3 : Int32))), .val .null, .val (.int (1 : Int32)), .val (.ref t0), .val (.ref t1), .val (.ref sd), .val (.long y1), .second, .val (.long y2), .second, .val (.long y3), .second, .unset, .unset] [(.ref b1)]))
      refine ownVia (fun _ k => XS.dup X140.here hx rfl (hb hby at_120) rfl rfl k) ?_
      show ownFin _ _ _ _ _ (T140.setTop (mkF m 121 #[.val (.int p1), .val (.int p2), .val (.int p3), .val (.long q1), .second, .val (.long q2), .second, .val (.long q3), .second, .val (.int (0 : Int32)), .val (.int (((p1.toUInt32 >>> ((1 : Int32) &&& 31).toUInt32).toInt32) &&& (3 : Int32))), .val .null, .val (.int (1 : Int32)), .val (.ref t0), .val (.ref t1), .val (.ref sd), .val (.long y1), .second, .val (.long y2), .second, .val (.long y3), .second, .unset, .unset] [(.ref b1), (.ref b1)]))
      refine ownVia (fun _ k => XS.aload X140.here hx rfl (hb hby at_121) rfl rfl k) ?_
      show ownFin _ _ _ _ _ (T140.setTop (mkF m 123 #[.val (.int p1), .val (.int p2), .val (.int p3), .val (.long q1), .second, .val (.long q2), .second, .val (.long q3), .second, .val (.int (0 : Int32)), .val (.int (((p1.toUInt32 >>> ((1 : Int32) &&& 31).toUInt32).toInt32) &&& (3 : Int32))), .val .null, .val (.int (1 : Int32)), .val (.ref t0), .val (.ref t1), .val (.ref sd), .val (.long y1), .second, .val (.long y2), .second, .val (.long y3), .second, .unset, .unset] [(.ref t1), (.ref b1), (.ref b1)]))
      refine ownVia (fun _ k => XS.aload X140.here hx rfl (hb hby at_123) rfl rfl k) ?_
      show ownFin _ _ _ _ _ (T140.setTop (mkF m 125 #[.val (.int p1), .val (.int p2), .val (.int p3), .val (.long q1), .second, .val (.long q2), .second, .val (.long q3), .second, .val (.int (0 : Int32)), .val (.int (((p1.toUInt32 >>> ((1 : Int32) &&& 31).toUInt32).toInt32) &&& (3 : Int32))), .val .null, .val (.int (1 : Int32)), .val (.ref t0), .val (.ref t1), .val (.ref sd), .val (.long y1), .second, .val (.long y2), .second, .val (.long y3), .second, .unset, .unset] [.null, (.ref t1), (.ref b1), (.ref b1)]))
      refine ownVia (fun _ k => XS.aload X140.here hx rfl (hb hby at_125) rfl rfl k) ?_
      show ownFin _ _ _ _ _ (T140.setTop (mkF m 127 #[.val (.int p1), .val (.int p2), .val (.int p3), .val (.long q1), .second, .val (.long q2), .second, .val (.long q3), .second, .val (.int (0 : Int32)), .val (.int (((p1.toUInt32 >>> ((1 : Int32) &&& 31).toUInt32).toInt32) &&& (3 : Int32))), .val .null, .val (.int (1 : Int32)), .val (.ref t0), .val (.ref t1), .val (.ref sd), .val (.long y1), .second, .val (.long y2), .second, .val (.long y3), .second, .unset, .unset] [(.ref t0), .null, (.ref t1), (.ref b1), (.ref b1)]))
      refine ownVia (fun _ k => XS.aload X140.here hx rfl (hb hby at_127) rfl rfl k) ?_
      show ownFin _ _ _ _ _ (T140.setTop (mkF m 129 #[.val (.int p1), .val (.int p2), .val (.int p3), .val (.long q1), .second, .val (.long q2), .second, .val (.long q3), .second, .val (.int (0 : Int32)), .val (.int (((p1.toUInt32 >>> ((1 : Int32) &&& 31).toUInt32).toInt32) &&& (3 : Int32))), .val .null, .val (.int (1 : Int32)), .val (.ref t0), .val (.ref t1), .val (.ref sd), .val (.long y1), .second, .val (.long y2), .second, .val (.long y3), .second, .unset, .unset] [(.ref sd), (.ref t0), .null, (.ref t1), (.ref b1), (.ref b1)]))
      refine ownVia (fun _ k => XS.lload X140.here hx rfl (hb hby at_129) rfl k) ?_
      show ownFin _ _ _ _ _ (T140.setTop (mkF m 131 #[.val (.int p1), .val (.int p2), .val (.int p3), .val (.long q1), .second, .val (.long q2), .second, .val (.long q3), .second, .val (.int (0 : Int32)), .val (.int (((p1.toUInt32 >>> ((1 : Int32) &&& 31).toUInt32).toInt32) &&& (3 : Int32))), .val .null, .val (.int (1 : Int32)), .val (.ref t0), .val (.ref t1), .val (.ref sd), .val (.long y1), .second, .val (.long y2), .second, .val (.long y3), .second, .unset, .unset] [(.long y1), (.ref sd), (.ref t0), .null, (.ref t1), (.ref b1), (.ref b1)]))
      refine ownVia (fun _ k => XS.lload X140.here hx rfl (hb hby at_131) rfl k) ?_
      show ownFin _ _ _ _ _ (T140.setTop (mkF m 133 #[.val (.int p1), .val (.int p2), .val (.int p3), .val (.long q1), .second, .val (.long q2), .second, .val (.long q3), .second, .val (.int (0 : Int32)), .val (.int (((p1.toUInt32 >>> ((1 : Int32) &&& 31).toUInt32).toInt32) &&& (3 : Int32))), .val .null, .val (.int (1 : Int32)), .val (.ref t0), .val (.ref t1), .val (.ref sd), .val (.long y1), .second, .val (.long y2), .second, .val (.long y3), .second, .unset, .unset] [(.long y2), (.long y1), (.ref sd), (.ref t0), .null, (.ref t1), (.ref b1), (.ref b1)]))
      refine ownVia (fun _ k => XS.lload X140.here hx rfl (hb hby at_133) rfl k) ?_
      show ownFin _ _ _ _ _ (T140.setTop (mkF m 135 #[.val (.int p1), .val (.int p2), .val (.int p3), .val (.long q1), .second, .val (.long q2), .second, .val (.long q3), .second, .val (.int (0 : Int32)), .val (.int (((p1.toUInt32 >>> ((1 : Int32) &&& 31).toUInt32).toInt32) &&& (3 : Int32))), .val .null, .val (.int (1 : Int32)), .val (.ref t0), .val (.ref t1), .val (.ref sd), .val (.long y1), .second, .val (.long y2), .second, .val (.long y3), .second, .unset, .unset] [(.long y3), (.long y2), (.long y1), (.ref sd), (.ref t0), .null, (.ref t1), (.ref b1), (.ref b1)]))
      refine ownCallN X140 hx hZ hown rfl (hw _ (List.mem_of_getElem? (i := 38) rfl)) (hw _ (List.mem_of_getElem? (i := 39) rfl)) (hw _ (List.mem_of_getElem? (i := 37) rfl)) (hw _ (List.mem_of_getElem? (i := 40) rfl)) (by decide) e140 (own_line_nr l Z a0 hw b1 t1 t0 sd y1 y2 y3 h140 n0 Z0 F_b1_outTradeNo F_b1_outRefundNo F_b1_state F_b1_standing F_b1_amount F_b1_couponRefund F_b1_fee E_b1 ge_b1 hq1 hq2 hq3) (by rw [hml]; rfl) b1 [(.ref t1), .null, (.ref t0), (.ref sd), (.long y1), (.long y2), (.long y3)] [(.ref b1)] (lenOf own_pd12 rfl) rfl rfl 1 rfl (hb hby at_135) (by decide) (by decide) (by decide) (by decide) ?_
      intro v141 T141 L141 X141 hq141
      obtain ⟨rfl, N141q, K141, F_b1⟩ := hq141
      have E_b1 := E_b1.keep K141
      have Z0 := Nat.le_trans Z0 K141.1
      have hk := Nat.le_trans hk K141.1
      have O := O.keep K141 (allS ge_b1 all0)
      have N141 := Fr.app N139 N141q
      show ownFin _ _ _ _ _ (T141.setTop (mkF m 138 #[.val (.int p1), .val (.int p2), .val (.int p3), .val (.long q1), .second, .val (.long q2), .second, .val (.long q3), .second, .val (.int (0 : Int32)), .val (.int (((p1.toUInt32 >>> ((1 : Int32) &&& 31).toUInt32).toInt32) &&& (3 : Int32))), .val .null, .val (.int (1 : Int32)), .val (.ref t0), .val (.ref t1), .val (.ref sd), .val (.long y1), .second, .val (.long y2), .second, .val (.long y3), .second, .unset, .unset] [(.ref b1)]))
      refine ownVia (fun _ k => XS.astore X141.here hx rfl (hb hby at_138) rfl rfl (l' := #[.val (.int p1), .val (.int p2), .val (.int p3), .val (.long q1), .second, .val (.long q2), .second, .val (.long q3), .second, .val (.int (0 : Int32)), .val (.int (((p1.toUInt32 >>> ((1 : Int32) &&& 31).toUInt32).toInt32) &&& (3 : Int32))), .val .null, .val (.int (1 : Int32)), .val (.ref t0), .val (.ref t1), .val (.ref sd), .val (.long y1), .second, .val (.long y2), .second, .val (.long y3), .second, .val (.ref b1), .unset]) rfl k) ?_
      show ownFin _ _ _ _ _ (T141.setTop (mkF m 140 #[.val (.int p1), .val (.int p2), .val (.int p3), .val (.long q1), .second, .val (.long q2), .second, .val (.long q3), .second, .val (.int (0 : Int32)), .val (.int (((p1.toUInt32 >>> ((1 : Int32) &&& 31).toUInt32).toInt32) &&& (3 : Int32))), .val .null, .val (.int (1 : Int32)), .val (.ref t0), .val (.ref t1), .val (.ref sd), .val (.long y1), .second, .val (.long y2), .second, .val (.long y3), .second, .val (.ref b1), .unset] []))
      refine ownVia (fun _ k => XS.iload X141.here hx rfl (hb hby at_140) rfl k) ?_
      show ownFin _ _ _ _ _ (T141.setTop (mkF m 142 #[.val (.int p1), .val (.int p2), .val (.int p3), .val (.long q1), .second, .val (.long q2), .second, .val (.long q3), .second, .val (.int (0 : Int32)), .val (.int (((p1.toUInt32 >>> ((1 : Int32) &&& 31).toUInt32).toInt32) &&& (3 : Int32))), .val .null, .val (.int (1 : Int32)), .val (.ref t0), .val (.ref t1), .val (.ref sd), .val (.long y1), .second, .val (.long y2), .second, .val (.long y3), .second, .val (.ref b1), .unset] [(.int (0 : Int32))]))
      refine ownVia (fun _ k => XS.istore X141.here hx rfl (hb hby at_142) rfl (l' := #[.val (.int p1), .val (.int p2), .val (.int p3), .val (.long q1), .second, .val (.long q2), .second, .val (.long q3), .second, .val (.int (0 : Int32)), .val (.int (((p1.toUInt32 >>> ((1 : Int32) &&& 31).toUInt32).toInt32) &&& (3 : Int32))), .val .null, .val (.int (1 : Int32)), .val (.ref t0), .val (.ref t1), .val (.ref sd), .val (.long y1), .second, .val (.long y2), .second, .val (.long y3), .second, .val (.ref b1), .val (.int (0 : Int32))]) rfl k) ?_
      show ownFin _ _ _ _ _ (T141.setTop (mkF m 144 #[.val (.int p1), .val (.int p2), .val (.int p3), .val (.long q1), .second, .val (.long q2), .second, .val (.long q3), .second, .val (.int (0 : Int32)), .val (.int (((p1.toUInt32 >>> ((1 : Int32) &&& 31).toUInt32).toInt32) &&& (3 : Int32))), .val .null, .val (.int (1 : Int32)), .val (.ref t0), .val (.ref t1), .val (.ref sd), .val (.long y1), .second, .val (.long y2), .second, .val (.long y3), .second, .val (.ref b1), .val (.int (0 : Int32))] []))
      refine ownVia (fun _ k => XS.aload X141.here hx rfl (hb hby at_144) rfl rfl k) ?_
      show ownFin _ _ _ _ _ (T141.setTop (mkF m 146 #[.val (.int p1), .val (.int p2), .val (.int p3), .val (.long q1), .second, .val (.long q2), .second, .val (.long q3), .second, .val (.int (0 : Int32)), .val (.int (((p1.toUInt32 >>> ((1 : Int32) &&& 31).toUInt32).toInt32) &&& (3 : Int32))), .val .null, .val (.int (1 : Int32)), .val (.ref t0), .val (.ref t1), .val (.ref sd), .val (.long y1), .second, .val (.long y2), .second, .val (.long y3), .second, .val (.ref b1), .val (.int (0 : Int32))] [(.ref b1)]))
      refine ownCallV X141 hx hZ hown (hw _ (List.mem_of_getElem? (i := 67) rfl)) (hw _ (List.mem_of_getElem? (i := 68) rfl)) (hw _ (List.mem_of_getElem? (i := 70) rfl)) (hw _ (List.mem_of_getElem? (i := 70) rfl)) (hw _ (List.mem_of_getElem? (i := 69) rfl)) (hw _ (List.mem_of_getElem? (i := 37) rfl)) (hw _ (List.mem_of_getElem? (i := 71) rfl)) (by decide) (rfl : T141.heap = T141.heap) E_b1 (own_isr_n l Z a0 hw b1 T141.heap n0  Z0 F_b1) (by rw [hml]; rfl) [] [] (lenOf own_pd13 rfl) rfl rfl 0 rfl (hb hby at_146) (by decide) (by decide) (by decide) (by decide) ?_
      intro v142 T142 L142 X142 hq142
      obtain ⟨rfl, N142q, eq142⟩ := hq142
      have N142 := Fr.app N141 N142q
      have e142 : T142.heap = T141.heap := eq142
      show ownFin _ _ _ _ _ (T142.setTop (mkF m 149 #[.val (.int p1), .val (.int p2), .val (.int p3), .val (.long q1), .second, .val (.long q2), .second, .val (.long q3), .second, .val (.int (0 : Int32)), .val (.int (((p1.toUInt32 >>> ((1 : Int32) &&& 31).toUInt32).toInt32) &&& (3 : Int32))), .val .null, .val (.int (1 : Int32)), .val (.ref t0), .val (.ref t1), .val (.ref sd), .val (.long y1), .second, .val (.long y2), .second, .val (.long y3), .second, .val (.ref b1), .val (.int (0 : Int32))] [(.int (0 : Int32))]))
      refine ownVia (fun _ k => XS.iload X142.here hx rfl (hb hby at_149) rfl k) ?_
      show ownFin _ _ _ _ _ (T142.setTop (mkF m 151 #[.val (.int p1), .val (.int p2), .val (.int p3), .val (.long q1), .second, .val (.long q2), .second, .val (.long q3), .second, .val (.int (0 : Int32)), .val (.int (((p1.toUInt32 >>> ((1 : Int32) &&& 31).toUInt32).toInt32) &&& (3 : Int32))), .val .null, .val (.int (1 : Int32)), .val (.ref t0), .val (.ref t1), .val (.ref sd), .val (.long y1), .second, .val (.long y2), .second, .val (.long y3), .second, .val (.ref b1), .val (.int (0 : Int32))] [(.int (0 : Int32)), (.int (0 : Int32))]))
      refine ownVia (fun _ k => XS.icmpNo X142.here hx rfl (hb hby at_151) rfl (teq rfl).2 k) ?_
      show ownFin _ _ _ _ _ (T142.setTop (mkF m 154 #[.val (.int p1), .val (.int p2), .val (.int p3), .val (.long q1), .second, .val (.long q2), .second, .val (.long q3), .second, .val (.int (0 : Int32)), .val (.int (((p1.toUInt32 >>> ((1 : Int32) &&& 31).toUInt32).toInt32) &&& (3 : Int32))), .val .null, .val (.int (1 : Int32)), .val (.ref t0), .val (.ref t1), .val (.ref sd), .val (.long y1), .second, .val (.long y2), .second, .val (.long y3), .second, .val (.ref b1), .val (.int (0 : Int32))] []))
      refine ownVia (fun _ k => XS.iconst X142.here hx rfl (hb hby at_154) k) ?_
      show ownFin _ _ _ _ _ (T142.setTop (mkF m 155 #[.val (.int p1), .val (.int p2), .val (.int p3), .val (.long q1), .second, .val (.long q2), .second, .val (.long q3), .second, .val (.int (0 : Int32)), .val (.int (((p1.toUInt32 >>> ((1 : Int32) &&& 31).toUInt32).toInt32) &&& (3 : Int32))), .val .null, .val (.int (1 : Int32)), .val (.ref t0), .val (.ref t1), .val (.ref sd), .val (.long y1), .second, .val (.long y2), .second, .val (.long y3), .second, .val (.ref b1), .val (.int (0 : Int32))] [(.int (1 : Int32))]))
      refine ownVia (fun _ k => XS.goto X142.here hx rfl (pc0 := 155) (pc' := 159) rfl (hb hby at_155) (by decide) (by decide) k) ?_
      show ownFin _ _ _ _ _ (T142.setTop (mkF m 159 #[.val (.int p1), .val (.int p2), .val (.int p3), .val (.long q1), .second, .val (.long q2), .second, .val (.long q3), .second, .val (.int (0 : Int32)), .val (.int (((p1.toUInt32 >>> ((1 : Int32) &&& 31).toUInt32).toInt32) &&& (3 : Int32))), .val .null, .val (.int (1 : Int32)), .val (.ref t0), .val (.ref t1), .val (.ref sd), .val (.long y1), .second, .val (.long y2), .second, .val (.long y3), .second, .val (.ref b1), .val (.int (0 : Int32))] [(.int (1 : Int32))]))
      refine ownRetZW X142 hx hlk hS (by first | exact hk | (rw [e142]; exact hk)) hret (hb hby at_159) (by decide) (by decide) (Or.inr rfl) ?_
      show (Q_own_law Z p1 p2 p3 q1 q2 q3 h0 n0 cs0) (some (.int (1 : Int32))) T142.heap _
      rw [e142]
      exact ⟨rfl, N142⟩
  case neg =>
    have hc130I : ¬ (p1 &&& (1 : Int32)).toInt = 0 := fun q => hc130 ((own_eqi rfl (by decide)).mpr q)
    refine ownVia (fun _ k => XS.ifNo X0.here hx rfl (hb hby at_3) rfl ((if0 _ _).trans (feq hc130).1) k) ?_
    show ownFin _ _ _ _ _ (T0.setTop (mkF m 6 #[.val (.int p1), .val (.int p2), .val (.int p3), .val (.long q1), .second, .val (.long q2), .second, .val (.long q3), .second, .unset, .unset, .unset, .unset, .unset, .unset, .unset, .unset, .unset, .unset, .unset, .unset, .unset, .unset, .unset] []))
    refine ownVia (fun _ k => XS.iconst X0.here hx rfl (hb hby at_6) k) ?_
    show ownFin _ _ _ _ _ (T0.setTop (mkF m 7 #[.val (.int p1), .val (.int p2), .val (.int p3), .val (.long q1), .second, .val (.long q2), .second, .val (.long q3), .second, .unset, .unset, .unset, .unset, .unset, .unset, .unset, .unset, .unset, .unset, .unset, .unset, .unset, .unset, .unset] [(.int (1 : Int32))]))
    refine ownVia (fun _ k => XS.goto X0.here hx rfl (pc0 := 7) (pc' := 11) rfl (hb hby at_7) (by decide) (by decide) k) ?_
    show ownFin _ _ _ _ _ (T0.setTop (mkF m 11 #[.val (.int p1), .val (.int p2), .val (.int p3), .val (.long q1), .second, .val (.long q2), .second, .val (.long q3), .second, .unset, .unset, .unset, .unset, .unset, .unset, .unset, .unset, .unset, .unset, .unset, .unset, .unset, .unset, .unset] [(.int (1 : Int32))]))
    refine ownVia (fun _ k => XS.istore X0.here hx rfl (hb hby at_11) rfl (l' := #[.val (.int p1), .val (.int p2), .val (.int p3), .val (.long q1), .second, .val (.long q2), .second, .val (.long q3), .second, .val (.int (1 : Int32)), .unset, .unset, .unset, .unset, .unset, .unset, .unset, .unset, .unset, .unset, .unset, .unset, .unset, .unset]) rfl k) ?_
    show ownFin _ _ _ _ _ (T0.setTop (mkF m 13 #[.val (.int p1), .val (.int p2), .val (.int p3), .val (.long q1), .second, .val (.long q2), .second, .val (.long q3), .second, .val (.int (1 : Int32)), .unset, .unset, .unset, .unset, .unset, .unset, .unset, .unset, .unset, .unset, .unset, .unset, .unset, .unset] []))
    refine ownVia (fun _ k => XS.iloadN X0.here hx rfl (hb hby at_13) rfl k) ?_
    show ownFin _ _ _ _ _ (T0.setTop (mkF m 14 #[.val (.int p1), .val (.int p2), .val (.int p3), .val (.long q1), .second, .val (.long q2), .second, .val (.long q3), .second, .val (.int (1 : Int32)), .unset, .unset, .unset, .unset, .unset, .unset, .unset, .unset, .unset, .unset, .unset, .unset, .unset, .unset] [(.int p1)]))
    refine ownVia (fun _ k => XS.iconst X0.here hx rfl (hb hby at_14) k) ?_
    show ownFin _ _ _ _ _ (T0.setTop (mkF m 15 #[.val (.int p1), .val (.int p2), .val (.int p3), .val (.long q1), .second, .val (.long q2), .second, .val (.long q3), .second, .val (.int (1 : Int32)), .unset, .unset, .unset, .unset, .unset, .unset, .unset, .unset, .unset, .unset, .unset, .unset, .unset, .unset] [(.int (1 : Int32)), (.int p1)]))
    refine ownVia (fun _ k => XS.iushr X0.here hx rfl (hb hby at_15) rfl k) ?_
    show ownFin _ _ _ _ _ (T0.setTop (mkF m 16 #[.val (.int p1), .val (.int p2), .val (.int p3), .val (.long q1), .second, .val (.long q2), .second, .val (.long q3), .second, .val (.int (1 : Int32)), .unset, .unset, .unset, .unset, .unset, .unset, .unset, .unset, .unset, .unset, .unset, .unset, .unset, .unset] [(.int ((p1.toUInt32 >>> ((1 : Int32) &&& 31).toUInt32).toInt32))]))
    refine ownVia (fun _ k => XS.iconst X0.here hx rfl (hb hby at_16) k) ?_
    show ownFin _ _ _ _ _ (T0.setTop (mkF m 17 #[.val (.int p1), .val (.int p2), .val (.int p3), .val (.long q1), .second, .val (.long q2), .second, .val (.long q3), .second, .val (.int (1 : Int32)), .unset, .unset, .unset, .unset, .unset, .unset, .unset, .unset, .unset, .unset, .unset, .unset, .unset, .unset] [(.int (3 : Int32)), (.int ((p1.toUInt32 >>> ((1 : Int32) &&& 31).toUInt32).toInt32))]))
    refine ownVia (fun _ k => XS.iand X0.here hx rfl (hb hby at_17) rfl k) ?_
    show ownFin _ _ _ _ _ (T0.setTop (mkF m 18 #[.val (.int p1), .val (.int p2), .val (.int p3), .val (.long q1), .second, .val (.long q2), .second, .val (.long q3), .second, .val (.int (1 : Int32)), .unset, .unset, .unset, .unset, .unset, .unset, .unset, .unset, .unset, .unset, .unset, .unset, .unset, .unset] [(.int (((p1.toUInt32 >>> ((1 : Int32) &&& 31).toUInt32).toInt32) &&& (3 : Int32)))]))
    refine ownVia (fun _ k => XS.istore X0.here hx rfl (hb hby at_18) rfl (l' := #[.val (.int p1), .val (.int p2), .val (.int p3), .val (.long q1), .second, .val (.long q2), .second, .val (.long q3), .second, .val (.int (1 : Int32)), .val (.int (((p1.toUInt32 >>> ((1 : Int32) &&& 31).toUInt32).toInt32) &&& (3 : Int32))), .unset, .unset, .unset, .unset, .unset, .unset, .unset, .unset, .unset, .unset, .unset, .unset, .unset]) rfl k) ?_
    show ownFin _ _ _ _ _ (T0.setTop (mkF m 20 #[.val (.int p1), .val (.int p2), .val (.int p3), .val (.long q1), .second, .val (.long q2), .second, .val (.long q3), .second, .val (.int (1 : Int32)), .val (.int (((p1.toUInt32 >>> ((1 : Int32) &&& 31).toUInt32).toInt32) &&& (3 : Int32))), .unset, .unset, .unset, .unset, .unset, .unset, .unset, .unset, .unset, .unset, .unset, .unset, .unset] []))
    refine ownVia (fun _ k => XS.iload X0.here hx rfl (hb hby at_20) rfl k) ?_
    show ownFin _ _ _ _ _ (T0.setTop (mkF m 22 #[.val (.int p1), .val (.int p2), .val (.int p3), .val (.long q1), .second, .val (.long q2), .second, .val (.long q3), .second, .val (.int (1 : Int32)), .val (.int (((p1.toUInt32 >>> ((1 : Int32) &&& 31).toUInt32).toInt32) &&& (3 : Int32))), .unset, .unset, .unset, .unset, .unset, .unset, .unset, .unset, .unset, .unset, .unset, .unset, .unset] [(.int (1 : Int32))]))
    refine ownVia (fun _ k => XS.ifNo X0.here hx rfl (hb hby at_22) rfl ((if0 _ _).trans (feq (by decide)).1) k) ?_
    show ownFin _ _ _ _ _ (T0.setTop (mkF m 25 #[.val (.int p1), .val (.int p2), .val (.int p3), .val (.long q1), .second, .val (.long q2), .second, .val (.long q3), .second, .val (.int (1 : Int32)), .val (.int (((p1.toUInt32 >>> ((1 : Int32) &&& 31).toUInt32).toInt32) &&& (3 : Int32))), .unset, .unset, .unset, .unset, .unset, .unset, .unset, .unset, .unset, .unset, .unset, .unset, .unset] []))
    refine ownVia (fun _ k => XS.iload X0.here hx rfl (hb hby at_25) rfl k) ?_
    show ownFin _ _ _ _ _ (T0.setTop (mkF m 27 #[.val (.int p1), .val (.int p2), .val (.int p3), .val (.long q1), .second, .val (.long q2), .second, .val (.long q3), .second, .val (.int (1 : Int32)), .val (.int (((p1.toUInt32 >>> ((1 : Int32) &&& 31).toUInt32).toInt32) &&& (3 : Int32))), .unset, .unset, .unset, .unset, .unset, .unset, .unset, .unset, .unset, .unset, .unset, .unset, .unset] [(.int (((p1.toUInt32 >>> ((1 : Int32) &&& 31).toUInt32).toInt32) &&& (3 : Int32)))]))
    refine ownVia (fun _ k => XS.iloadN X0.here hx rfl (hb hby at_27) rfl k) ?_
    show ownFin _ _ _ _ _ (T0.setTop (mkF m 28 #[.val (.int p1), .val (.int p2), .val (.int p3), .val (.long q1), .second, .val (.long q2), .second, .val (.long q3), .second, .val (.int (1 : Int32)), .val (.int (((p1.toUInt32 >>> ((1 : Int32) &&& 31).toUInt32).toInt32) &&& (3 : Int32))), .unset, .unset, .unset, .unset, .unset, .unset, .unset, .unset, .unset, .unset, .unset, .unset, .unset] [(.int p3), (.int (((p1.toUInt32 >>> ((1 : Int32) &&& 31).toUInt32).toInt32) &&& (3 : Int32)))]))
    refine ownCallSI X0 hx hZ hI hown (hw _ (List.mem_of_getElem? (i := 74) rfl)) (hw _ (List.mem_of_getElem? (i := 75) rfl)) (hw _ (List.mem_of_getElem? (i := 28) rfl)) (hw _ (List.mem_of_getElem? (i := 76) rfl)) (by decide) e0 (own_drawn l Z a0 hw (((p1.toUInt32 >>> ((1 : Int32) &&& 31).toUInt32).toInt32) &&& (3 : Int32)) p3 h0 n0 cs0 Z0 O S_c hcs hheld hcw hln) (by rw [hml]; rfl) [(.int (((p1.toUInt32 >>> ((1 : Int32) &&& 31).toUInt32).toInt32) &&& (3 : Int32))), (.int p3)] [] (lenOf own_pd14 rfl) rfl rfl 0 rfl (hb hby at_28) (by decide) (by decide) (by decide) (by decide) ?_
    intro v143 T143 L143 X143 hq143 hZ hown hS hk
    obtain ⟨rf, rfl, N143q, K143, sq143⟩ := hq143
    have Z0 := Nat.le_trans Z0 K143.1
    have O := O.keep K143 all0
    have N143 := Fr.app N0 N143q
    show ownFin _ _ _ _ _ (T143.setTop (mkF m 31 #[.val (.int p1), .val (.int p2), .val (.int p3), .val (.long q1), .second, .val (.long q2), .second, .val (.long q3), .second, .val (.int (1 : Int32)), .val (.int (((p1.toUInt32 >>> ((1 : Int32) &&& 31).toUInt32).toInt32) &&& (3 : Int32))), .unset, .unset, .unset, .unset, .unset, .unset, .unset, .unset, .unset, .unset, .unset, .unset, .unset] [(.ref rf)]))
    refine ownVia (fun _ k => XS.goto X143.here hx rfl (pc0 := 31) (pc' := 35) rfl (hb hby at_31) (by decide) (by decide) k) ?_
    show ownFin _ _ _ _ _ (T143.setTop (mkF m 35 #[.val (.int p1), .val (.int p2), .val (.int p3), .val (.long q1), .second, .val (.long q2), .second, .val (.long q3), .second, .val (.int (1 : Int32)), .val (.int (((p1.toUInt32 >>> ((1 : Int32) &&& 31).toUInt32).toInt32) &&& (3 : Int32))), .unset, .unset, .unset, .unset, .unset, .unset, .unset, .unset, .unset, .unset, .unset, .unset, .unset] [(.ref rf)]))
    refine ownVia (fun _ k => XS.astore X143.here hx rfl (hb hby at_35) rfl rfl (l' := #[.val (.int p1), .val (.int p2), .val (.int p3), .val (.long q1), .second, .val (.long q2), .second, .val (.long q3), .second, .val (.int (1 : Int32)), .val (.int (((p1.toUInt32 >>> ((1 : Int32) &&& 31).toUInt32).toInt32) &&& (3 : Int32))), .val (.ref rf), .unset, .unset, .unset, .unset, .unset, .unset, .unset, .unset, .unset, .unset, .unset, .unset]) rfl k) ?_
    show ownFin _ _ _ _ _ (T143.setTop (mkF m 37 #[.val (.int p1), .val (.int p2), .val (.int p3), .val (.long q1), .second, .val (.long q2), .second, .val (.long q3), .second, .val (.int (1 : Int32)), .val (.int (((p1.toUInt32 >>> ((1 : Int32) &&& 31).toUInt32).toInt32) &&& (3 : Int32))), .val (.ref rf), .unset, .unset, .unset, .unset, .unset, .unset, .unset, .unset, .unset, .unset, .unset, .unset] []))
    refine ownVia (fun _ k => XS.iloadN X143.here hx rfl (hb hby at_37) rfl k) ?_
    show ownFin _ _ _ _ _ (T143.setTop (mkF m 38 #[.val (.int p1), .val (.int p2), .val (.int p3), .val (.long q1), .second, .val (.long q2), .second, .val (.long q3), .second, .val (.int (1 : Int32)), .val (.int (((p1.toUInt32 >>> ((1 : Int32) &&& 31).toUInt32).toInt32) &&& (3 : Int32))), .val (.ref rf), .unset, .unset, .unset, .unset, .unset, .unset, .unset, .unset, .unset, .unset, .unset, .unset] [(.int p1)]))
    refine ownVia (fun _ k => XS.iconst X143.here hx rfl (hb hby at_38) k) ?_
    show ownFin _ _ _ _ _ (T143.setTop (mkF m 39 #[.val (.int p1), .val (.int p2), .val (.int p3), .val (.long q1), .second, .val (.long q2), .second, .val (.long q3), .second, .val (.int (1 : Int32)), .val (.int (((p1.toUInt32 >>> ((1 : Int32) &&& 31).toUInt32).toInt32) &&& (3 : Int32))), .val (.ref rf), .unset, .unset, .unset, .unset, .unset, .unset, .unset, .unset, .unset, .unset, .unset, .unset] [(.int (3 : Int32)), (.int p1)]))
    refine ownVia (fun _ k => XS.iushr X143.here hx rfl (hb hby at_39) rfl k) ?_
    show ownFin _ _ _ _ _ (T143.setTop (mkF m 40 #[.val (.int p1), .val (.int p2), .val (.int p3), .val (.long q1), .second, .val (.long q2), .second, .val (.long q3), .second, .val (.int (1 : Int32)), .val (.int (((p1.toUInt32 >>> ((1 : Int32) &&& 31).toUInt32).toInt32) &&& (3 : Int32))), .val (.ref rf), .unset, .unset, .unset, .unset, .unset, .unset, .unset, .unset, .unset, .unset, .unset, .unset] [(.int ((p1.toUInt32 >>> ((3 : Int32) &&& 31).toUInt32).toInt32))]))
    refine ownVia (fun _ k => XS.iconst X143.here hx rfl (hb hby at_40) k) ?_
    show ownFin _ _ _ _ _ (T143.setTop (mkF m 41 #[.val (.int p1), .val (.int p2), .val (.int p3), .val (.long q1), .second, .val (.long q2), .second, .val (.long q3), .second, .val (.int (1 : Int32)), .val (.int (((p1.toUInt32 >>> ((1 : Int32) &&& 31).toUInt32).toInt32) &&& (3 : Int32))), .val (.ref rf), .unset, .unset, .unset, .unset, .unset, .unset, .unset, .unset, .unset, .unset, .unset, .unset] [(.int (1 : Int32)), (.int ((p1.toUInt32 >>> ((3 : Int32) &&& 31).toUInt32).toInt32))]))
    refine ownVia (fun _ k => XS.iand X143.here hx rfl (hb hby at_41) rfl k) ?_
    show ownFin _ _ _ _ _ (T143.setTop (mkF m 42 #[.val (.int p1), .val (.int p2), .val (.int p3), .val (.long q1), .second, .val (.long q2), .second, .val (.long q3), .second, .val (.int (1 : Int32)), .val (.int (((p1.toUInt32 >>> ((1 : Int32) &&& 31).toUInt32).toInt32) &&& (3 : Int32))), .val (.ref rf), .unset, .unset, .unset, .unset, .unset, .unset, .unset, .unset, .unset, .unset, .unset, .unset] [(.int (((p1.toUInt32 >>> ((3 : Int32) &&& 31).toUInt32).toInt32) &&& (1 : Int32)))]))
    by_cases hc144 : (((p1.toUInt32 >>> ((3 : Int32) &&& 31).toUInt32).toInt32) &&& (1 : Int32)) = (0 : Int32)
    case pos =>
      have hc144I : (((p1.toUInt32 >>> ((3 : Int32) &&& 31).toUInt32).toInt32) &&& (1 : Int32)).toInt = 0 := (own_eqi rfl (by decide)).mp hc144
      refine ownVia (fun _ k => XS.ifYes X143.here hx rfl (pc0 := 42) (pc' := 49) rfl (hb hby at_42) rfl ((if0 _ _).trans (teq hc144).1) (by decide) (by decide) k) ?_
      show ownFin _ _ _ _ _ (T143.setTop (mkF m 49 #[.val (.int p1), .val (.int p2), .val (.int p3), .val (.long q1), .second, .val (.long q2), .second, .val (.long q3), .second, .val (.int (1 : Int32)), .val (.int (((p1.toUInt32 >>> ((1 : Int32) &&& 31).toUInt32).toInt32) &&& (3 : Int32))), .val (.ref rf), .unset, .unset, .unset, .unset, .unset, .unset, .unset, .unset, .unset, .unset, .unset, .unset] []))
      refine ownVia (fun _ k => XS.iconst X143.here hx rfl (hb hby at_49) k) ?_
      show ownFin _ _ _ _ _ (T143.setTop (mkF m 50 #[.val (.int p1), .val (.int p2), .val (.int p3), .val (.long q1), .second, .val (.long q2), .second, .val (.long q3), .second, .val (.int (1 : Int32)), .val (.int (((p1.toUInt32 >>> ((1 : Int32) &&& 31).toUInt32).toInt32) &&& (3 : Int32))), .val (.ref rf), .unset, .unset, .unset, .unset, .unset, .unset, .unset, .unset, .unset, .unset, .unset, .unset] [(.int (0 : Int32))]))
      refine ownVia (fun _ k => XS.istore X143.here hx rfl (hb hby at_50) rfl (l' := #[.val (.int p1), .val (.int p2), .val (.int p3), .val (.long q1), .second, .val (.long q2), .second, .val (.long q3), .second, .val (.int (1 : Int32)), .val (.int (((p1.toUInt32 >>> ((1 : Int32) &&& 31).toUInt32).toInt32) &&& (3 : Int32))), .val (.ref rf), .val (.int (0 : Int32)), .unset, .unset, .unset, .unset, .unset, .unset, .unset, .unset, .unset, .unset, .unset]) rfl k) ?_
      show ownFin _ _ _ _ _ (T143.setTop (mkF m 52 #[.val (.int p1), .val (.int p2), .val (.int p3), .val (.long q1), .second, .val (.long q2), .second, .val (.long q3), .second, .val (.int (1 : Int32)), .val (.int (((p1.toUInt32 >>> ((1 : Int32) &&& 31).toUInt32).toInt32) &&& (3 : Int32))), .val (.ref rf), .val (.int (0 : Int32)), .unset, .unset, .unset, .unset, .unset, .unset, .unset, .unset, .unset, .unset, .unset] []))
      refine ownVia (fun _ k => XS.iload X143.here hx rfl (hb hby at_52) rfl k) ?_
      show ownFin _ _ _ _ _ (T143.setTop (mkF m 54 #[.val (.int p1), .val (.int p2), .val (.int p3), .val (.long q1), .second, .val (.long q2), .second, .val (.long q3), .second, .val (.int (1 : Int32)), .val (.int (((p1.toUInt32 >>> ((1 : Int32) &&& 31).toUInt32).toInt32) &&& (3 : Int32))), .val (.ref rf), .val (.int (0 : Int32)), .unset, .unset, .unset, .unset, .unset, .unset, .unset, .unset, .unset, .unset, .unset] [(.int (0 : Int32))]))
      refine ownVia (fun _ k => XS.ifYes X143.here hx rfl (pc0 := 54) (pc' := 71) rfl (hb hby at_54) rfl ((if0 _ _).trans (teq rfl).1) (by decide) (by decide) k) ?_
      show ownFin _ _ _ _ _ (T143.setTop (mkF m 71 #[.val (.int p1), .val (.int p2), .val (.int p3), .val (.long q1), .second, .val (.long q2), .second, .val (.long q3), .second, .val (.int (1 : Int32)), .val (.int (((p1.toUInt32 >>> ((1 : Int32) &&& 31).toUInt32).toInt32) &&& (3 : Int32))), .val (.ref rf), .val (.int (0 : Int32)), .unset, .unset, .unset, .unset, .unset, .unset, .unset, .unset, .unset, .unset, .unset] []))
      refine ownVia (fun _ k => XS.aconstNull X143.here hx rfl (hb hby at_71) k) ?_
      show ownFin _ _ _ _ _ (T143.setTop (mkF m 72 #[.val (.int p1), .val (.int p2), .val (.int p3), .val (.long q1), .second, .val (.long q2), .second, .val (.long q3), .second, .val (.int (1 : Int32)), .val (.int (((p1.toUInt32 >>> ((1 : Int32) &&& 31).toUInt32).toInt32) &&& (3 : Int32))), .val (.ref rf), .val (.int (0 : Int32)), .unset, .unset, .unset, .unset, .unset, .unset, .unset, .unset, .unset, .unset, .unset] [.null]))
      refine ownVia (fun _ k => XS.astore X143.here hx rfl (hb hby at_72) rfl rfl (l' := #[.val (.int p1), .val (.int p2), .val (.int p3), .val (.long q1), .second, .val (.long q2), .second, .val (.long q3), .second, .val (.int (1 : Int32)), .val (.int (((p1.toUInt32 >>> ((1 : Int32) &&& 31).toUInt32).toInt32) &&& (3 : Int32))), .val (.ref rf), .val (.int (0 : Int32)), .val .null, .unset, .unset, .unset, .unset, .unset, .unset, .unset, .unset, .unset, .unset]) rfl k) ?_
      show ownFin _ _ _ _ _ (T143.setTop (mkF m 74 #[.val (.int p1), .val (.int p2), .val (.int p3), .val (.long q1), .second, .val (.long q2), .second, .val (.long q3), .second, .val (.int (1 : Int32)), .val (.int (((p1.toUInt32 >>> ((1 : Int32) &&& 31).toUInt32).toInt32) &&& (3 : Int32))), .val (.ref rf), .val (.int (0 : Int32)), .val .null, .unset, .unset, .unset, .unset, .unset, .unset, .unset, .unset, .unset, .unset] []))
      refine ownVia (fun _ k => XS.iloadN X143.here hx rfl (hb hby at_74) rfl k) ?_
      show ownFin _ _ _ _ _ (T143.setTop (mkF m 75 #[.val (.int p1), .val (.int p2), .val (.int p3), .val (.long q1), .second, .val (.long q2), .second, .val (.long q3), .second, .val (.int (1 : Int32)), .val (.int (((p1.toUInt32 >>> ((1 : Int32) &&& 31).toUInt32).toInt32) &&& (3 : Int32))), .val (.ref rf), .val (.int (0 : Int32)), .val .null, .unset, .unset, .unset, .unset, .unset, .unset, .unset, .unset, .unset, .unset] [(.int p2)]))
      refine ownVia (fun _ k => XS.bipush X143.here hx rfl (hb hby at_75) k) ?_
      show ownFin _ _ _ _ _ (T143.setTop (mkF m 77 #[.val (.int p1), .val (.int p2), .val (.int p3), .val (.long q1), .second, .val (.long q2), .second, .val (.long q3), .second, .val (.int (1 : Int32)), .val (.int (((p1.toUInt32 >>> ((1 : Int32) &&& 31).toUInt32).toInt32) &&& (3 : Int32))), .val (.ref rf), .val (.int (0 : Int32)), .val .null, .unset, .unset, .unset, .unset, .unset, .unset, .unset, .unset, .unset, .unset] [(.int (8 : Int32)), (.int p2)]))
      refine ownVia (fun _ k => XS.iushr X143.here hx rfl (hb hby at_77) rfl k) ?_
      show ownFin _ _ _ _ _ (T143.setTop (mkF m 78 #[.val (.int p1), .val (.int p2), .val (.int p3), .val (.long q1), .second, .val (.long q2), .second, .val (.long q3), .second, .val (.int (1 : Int32)), .val (.int (((p1.toUInt32 >>> ((1 : Int32) &&& 31).toUInt32).toInt32) &&& (3 : Int32))), .val (.ref rf), .val (.int (0 : Int32)), .val .null, .unset, .unset, .unset, .unset, .unset, .unset, .unset, .unset, .unset, .unset] [(.int ((p2.toUInt32 >>> ((8 : Int32) &&& 31).toUInt32).toInt32))]))
      refine ownVia (fun _ k => XS.sipush X143.here hx rfl (hb hby at_78) k) ?_
      show ownFin _ _ _ _ _ (T143.setTop (mkF m 81 #[.val (.int p1), .val (.int p2), .val (.int p3), .val (.long q1), .second, .val (.long q2), .second, .val (.long q3), .second, .val (.int (1 : Int32)), .val (.int (((p1.toUInt32 >>> ((1 : Int32) &&& 31).toUInt32).toInt32) &&& (3 : Int32))), .val (.ref rf), .val (.int (0 : Int32)), .val .null, .unset, .unset, .unset, .unset, .unset, .unset, .unset, .unset, .unset, .unset] [(.int (255 : Int32)), (.int ((p2.toUInt32 >>> ((8 : Int32) &&& 31).toUInt32).toInt32))]))
      refine ownVia (fun _ k => XS.iand X143.here hx rfl (hb hby at_81) rfl k) ?_
      show ownFin _ _ _ _ _ (T143.setTop (mkF m 82 #[.val (.int p1), .val (.int p2), .val (.int p3), .val (.long q1), .second, .val (.long q2), .second, .val (.long q3), .second, .val (.int (1 : Int32)), .val (.int (((p1.toUInt32 >>> ((1 : Int32) &&& 31).toUInt32).toInt32) &&& (3 : Int32))), .val (.ref rf), .val (.int (0 : Int32)), .val .null, .unset, .unset, .unset, .unset, .unset, .unset, .unset, .unset, .unset, .unset] [(.int (((p2.toUInt32 >>> ((8 : Int32) &&& 31).toUInt32).toInt32) &&& (255 : Int32)))]))
      refine ownVia (fun _ k => XS.i2c X143.here hx rfl (hb hby at_82) rfl k) ?_
      show ownFin _ _ _ _ _ (T143.setTop (mkF m 83 #[.val (.int p1), .val (.int p2), .val (.int p3), .val (.long q1), .second, .val (.long q2), .second, .val (.long q3), .second, .val (.int (1 : Int32)), .val (.int (((p1.toUInt32 >>> ((1 : Int32) &&& 31).toUInt32).toInt32) &&& (3 : Int32))), .val (.ref rf), .val (.int (0 : Int32)), .val .null, .unset, .unset, .unset, .unset, .unset, .unset, .unset, .unset, .unset, .unset] [(.int ((((p2.toUInt32 >>> ((8 : Int32) &&& 31).toUInt32).toInt32) &&& (255 : Int32)).toUInt32.toUInt16.toUInt32.toInt32))]))
      refine ownCallS X143 hx hZ hown (hw _ (List.mem_of_getElem? (i := 0) rfl)) (hw _ (List.mem_of_getElem? (i := 1) rfl)) (hw _ (List.mem_of_getElem? (i := 2) rfl)) (hw _ (List.mem_of_getElem? (i := 3) rfl)) (by decide) (rfl : T143.heap = T143.heap) (own_vof l Z a0 hw ((((p2.toUInt32 >>> ((8 : Int32) &&& 31).toUInt32).toInt32) &&& (255 : Int32)).toUInt32.toUInt16.toUInt32.toInt32) T143.heap n0 cs0 Z0 O S_c hcs (own_ch _).2) (by rw [hml]; rfl) [(.int ((((p2.toUInt32 >>> ((8 : Int32) &&& 31).toUInt32).toInt32) &&& (255 : Int32)).toUInt32.toUInt16.toUInt32.toInt32))] [] (lenOf own_pd10 rfl) rfl rfl 0 rfl (hb hby at_83) (by decide) (by decide) (by decide) (by decide) ?_
      intro v145 T145 L145 X145 hq145
      obtain ⟨t0, rfl, N145q, K145, sq145⟩ := hq145
      have Z0 := Nat.le_trans Z0 K145.1
      have hk := Nat.le_trans hk K145.1
      have O := O.keep K145 all0
      have N145 := Fr.app N143 N145q
      show ownFin _ _ _ _ _ (T145.setTop (mkF m 86 #[.val (.int p1), .val (.int p2), .val (.int p3), .val (.long q1), .second, .val (.long q2), .second, .val (.long q3), .second, .val (.int (1 : Int32)), .val (.int (((p1.toUInt32 >>> ((1 : Int32) &&& 31).toUInt32).toInt32) &&& (3 : Int32))), .val (.ref rf), .val (.int (0 : Int32)), .val .null, .unset, .unset, .unset, .unset, .unset, .unset, .unset, .unset, .unset, .unset] [(.ref t0)]))
      refine ownVia (fun _ k => XS.astore X145.here hx rfl (hb hby at_86) rfl rfl (l' := #[.val (.int p1), .val (.int p2), .val (.int p3), .val (.long q1), .second, .val (.long q2), .second, .val (.long q3), .second, .val (.int (1 : Int32)), .val (.int (((p1.toUInt32 >>> ((1 : Int32) &&& 31).toUInt32).toInt32) &&& (3 : Int32))), .val (.ref rf), .val (.int (0 : Int32)), .val .null, .val (.ref t0), .unset, .unset, .unset, .unset, .unset, .unset, .unset, .unset, .unset]) rfl k) ?_
      show ownFin _ _ _ _ _ (T145.setTop (mkF m 88 #[.val (.int p1), .val (.int p2), .val (.int p3), .val (.long q1), .second, .val (.long q2), .second, .val (.long q3), .second, .val (.int (1 : Int32)), .val (.int (((p1.toUInt32 >>> ((1 : Int32) &&& 31).toUInt32).toInt32) &&& (3 : Int32))), .val (.ref rf), .val (.int (0 : Int32)), .val .null, .val (.ref t0), .unset, .unset, .unset, .unset, .unset, .unset, .unset, .unset, .unset] []))
      refine ownVia (fun _ k => XS.iloadN X145.here hx rfl (hb hby at_88) rfl k) ?_
      show ownFin _ _ _ _ _ (T145.setTop (mkF m 89 #[.val (.int p1), .val (.int p2), .val (.int p3), .val (.long q1), .second, .val (.long q2), .second, .val (.long q3), .second, .val (.int (1 : Int32)), .val (.int (((p1.toUInt32 >>> ((1 : Int32) &&& 31).toUInt32).toInt32) &&& (3 : Int32))), .val (.ref rf), .val (.int (0 : Int32)), .val .null, .val (.ref t0), .unset, .unset, .unset, .unset, .unset, .unset, .unset, .unset, .unset] [(.int p2)]))
      refine ownCallS X145 hx hZ hown (hw _ (List.mem_of_getElem? (i := 26) rfl)) (hw _ (List.mem_of_getElem? (i := 27) rfl)) (hw _ (List.mem_of_getElem? (i := 28) rfl)) (hw _ (List.mem_of_getElem? (i := 29) rfl)) (by decide) (rfl : T145.heap = T145.heap) (own_std l Z a0 hw p2 T145.heap n0 Z0 (by obtain ⟨z, q⟩ := k0; exact ⟨z, q.ext O.2⟩) (by obtain ⟨z, q⟩ := k1; exact ⟨z, q.ext O.2⟩) (by obtain ⟨z, q⟩ := k2; exact ⟨z, q.ext O.2⟩) (by obtain ⟨z, q⟩ := k3; exact ⟨z, q.ext O.2⟩) (by obtain ⟨z, q⟩ := k4; exact ⟨z, q.ext O.2⟩) (by obtain ⟨z, q⟩ := k5; exact ⟨z, q.ext O.2⟩) (by obtain ⟨z, q⟩ := k6; exact ⟨z, q.ext O.2⟩)) (by rw [hml]; rfl) [(.int p2)] [] (lenOf own_pd11 rfl) rfl rfl 0 rfl (hb hby at_89) (by decide) (by decide) (by decide) (by decide) ?_
      intro v146 T146 L146 X146 hq146
      obtain ⟨sd, rfl, N146q, eq146⟩ := hq146
      have N146 := Fr.app N145 N146q
      have e146 : T146.heap = T145.heap := eq146
      show ownFin _ _ _ _ _ (T146.setTop (mkF m 92 #[.val (.int p1), .val (.int p2), .val (.int p3), .val (.long q1), .second, .val (.long q2), .second, .val (.long q3), .second, .val (.int (1 : Int32)), .val (.int (((p1.toUInt32 >>> ((1 : Int32) &&& 31).toUInt32).toInt32) &&& (3 : Int32))), .val (.ref rf), .val (.int (0 : Int32)), .val .null, .val (.ref t0), .unset, .unset, .unset, .unset, .unset, .unset, .unset, .unset, .unset] [(.ref sd)]))
      refine ownVia (fun _ k => XS.astore X146.here hx rfl (hb hby at_92) rfl rfl (l' := #[.val (.int p1), .val (.int p2), .val (.int p3), .val (.long q1), .second, .val (.long q2), .second, .val (.long q3), .second, .val (.int (1 : Int32)), .val (.int (((p1.toUInt32 >>> ((1 : Int32) &&& 31).toUInt32).toInt32) &&& (3 : Int32))), .val (.ref rf), .val (.int (0 : Int32)), .val .null, .val (.ref t0), .val (.ref sd), .unset, .unset, .unset, .unset, .unset, .unset, .unset, .unset]) rfl k) ?_
      show ownFin _ _ _ _ _ (T146.setTop (mkF m 94 #[.val (.int p1), .val (.int p2), .val (.int p3), .val (.long q1), .second, .val (.long q2), .second, .val (.long q3), .second, .val (.int (1 : Int32)), .val (.int (((p1.toUInt32 >>> ((1 : Int32) &&& 31).toUInt32).toInt32) &&& (3 : Int32))), .val (.ref rf), .val (.int (0 : Int32)), .val .null, .val (.ref t0), .val (.ref sd), .unset, .unset, .unset, .unset, .unset, .unset, .unset, .unset] []))
      refine ownVia (fun _ k => XS.lloadN X146.here hx rfl (hb hby at_94) rfl k) ?_
      show ownFin _ _ _ _ _ (T146.setTop (mkF m 95 #[.val (.int p1), .val (.int p2), .val (.int p3), .val (.long q1), .second, .val (.long q2), .second, .val (.long q3), .second, .val (.int (1 : Int32)), .val (.int (((p1.toUInt32 >>> ((1 : Int32) &&& 31).toUInt32).toInt32) &&& (3 : Int32))), .val (.ref rf), .val (.int (0 : Int32)), .val .null, .val (.ref t0), .val (.ref sd), .unset, .unset, .unset, .unset, .unset, .unset, .unset, .unset] [(.long q1)]))
      refine ownVia (fun _ k => X146.ldc2Long hx hown (mvT hZ (hw _ (List.mem_of_getElem? (i := 34) rfl))) (g := (mkF m 95 #[.val (.int p1), .val (.int p2), .val (.int p3), .val (.long q1), .second, .val (.long q2), .second, .val (.long q3), .second, .val (.int (1 : Int32)), .val (.int (((p1.toUInt32 >>> ((1 : Int32) &&& 31).toUInt32).toInt32) &&& (3 : Int32))), .val (.ref rf), .val (.int (0 : Int32)), .val .null, .val (.ref t0), .val (.ref sd), .unset, .unset, .unset, .unset, .unset, .unset, .unset, .unset] [(.long q1)])) rfl (hb hby at_95) _ k) ?_
      show ownFin _ _ _ _ _ (T146.setTop (mkF m 98 #[.val (.int p1), .val (.int p2), .val (.int p3), .val (.long q1), .second, .val (.long q2), .second, .val (.long q3), .second, .val (.int (1 : Int32)), .val (.int (((p1.toUInt32 >>> ((1 : Int32) &&& 31).toUInt32).toInt32) &&& (3 : Int32))), .val (.ref rf), .val (.int (0 : Int32)), .val .null, .val (.ref t0), .val (.ref sd), .unset, .unset, .unset, .unset, .unset, .unset, .unset, .unset] [(.long (2147483648 : Int64)), (.long q1)]))
      refine ownVia (fun _ k => XS.lrem X146.here hx rfl (hb hby at_98) rfl (by decide) k) ?_
      show ownFin _ _ _ _ _ (T146.setTop (mkF m 99 #[.val (.int p1), .val (.int p2), .val (.int p3), .val (.long q1), .second, .val (.long q2), .second, .val (.long q3), .second, .val (.int (1 : Int32)), .val (.int (((p1.toUInt32 >>> ((1 : Int32) &&& 31).toUInt32).toInt32) &&& (3 : Int32))), .val (.ref rf), .val (.int (0 : Int32)), .val .null, .val (.ref t0), .val (.ref sd), .unset, .unset, .unset, .unset, .unset, .unset, .unset, .unset] [(.long (q1 - (q1 / (2147483648 : Int64)) * (2147483648 : Int64)))]))
      refine ownVia (fun _ k => XS.lstore X146.here hx rfl (hb hby at_99) rfl (l' := #[.val (.int p1), .val (.int p2), .val (.int p3), .val (.long q1), .second, .val (.long q2), .second, .val (.long q3), .second, .val (.int (1 : Int32)), .val (.int (((p1.toUInt32 >>> ((1 : Int32) &&& 31).toUInt32).toInt32) &&& (3 : Int32))), .val (.ref rf), .val (.int (0 : Int32)), .val .null, .val (.ref t0), .val (.ref sd), .val (.long (q1 - (q1 / (2147483648 : Int64)) * (2147483648 : Int64))), .second, .unset, .unset, .unset, .unset, .unset, .unset]) rfl k) ?_
      show ownFin _ _ _ _ _ (T146.setTop (mkF m 101 #[.val (.int p1), .val (.int p2), .val (.int p3), .val (.long q1), .second, .val (.long q2), .second, .val (.long q3), .second, .val (.int (1 : Int32)), .val (.int (((p1.toUInt32 >>> ((1 : Int32) &&& 31).toUInt32).toInt32) &&& (3 : Int32))), .val (.ref rf), .val (.int (0 : Int32)), .val .null, .val (.ref t0), .val (.ref sd), .val (.long (q1 - (q1 / (2147483648 : Int64)) * (2147483648 : Int64))), .second, .unset, .unset, .unset, .unset, .unset, .unset] []))
      refine ownVia (fun _ k => XS.lload X146.here hx rfl (hb hby at_101) rfl k) ?_
      show ownFin _ _ _ _ _ (T146.setTop (mkF m 103 #[.val (.int p1), .val (.int p2), .val (.int p3), .val (.long q1), .second, .val (.long q2), .second, .val (.long q3), .second, .val (.int (1 : Int32)), .val (.int (((p1.toUInt32 >>> ((1 : Int32) &&& 31).toUInt32).toInt32) &&& (3 : Int32))), .val (.ref rf), .val (.int (0 : Int32)), .val .null, .val (.ref t0), .val (.ref sd), .val (.long (q1 - (q1 / (2147483648 : Int64)) * (2147483648 : Int64))), .second, .unset, .unset, .unset, .unset, .unset, .unset] [(.long q2)]))
      refine ownVia (fun _ k => X146.ldc2Long hx hown (mvT hZ (hw _ (List.mem_of_getElem? (i := 34) rfl))) (g := (mkF m 103 #[.val (.int p1), .val (.int p2), .val (.int p3), .val (.long q1), .second, .val (.long q2), .second, .val (.long q3), .second, .val (.int (1 : Int32)), .val (.int (((p1.toUInt32 >>> ((1 : Int32) &&& 31).toUInt32).toInt32) &&& (3 : Int32))), .val (.ref rf), .val (.int (0 : Int32)), .val .null, .val (.ref t0), .val (.ref sd), .val (.long (q1 - (q1 / (2147483648 : Int64)) * (2147483648 : Int64))), .second, .unset, .unset, .unset, .unset, .unset, .unset] [(.long q2)])) rfl (hb hby at_103) _ k) ?_
      show ownFin _ _ _ _ _ (T146.setTop (mkF m 106 #[.val (.int p1), .val (.int p2), .val (.int p3), .val (.long q1), .second, .val (.long q2), .second, .val (.long q3), .second, .val (.int (1 : Int32)), .val (.int (((p1.toUInt32 >>> ((1 : Int32) &&& 31).toUInt32).toInt32) &&& (3 : Int32))), .val (.ref rf), .val (.int (0 : Int32)), .val .null, .val (.ref t0), .val (.ref sd), .val (.long (q1 - (q1 / (2147483648 : Int64)) * (2147483648 : Int64))), .second, .unset, .unset, .unset, .unset, .unset, .unset] [(.long (2147483648 : Int64)), (.long q2)]))
      refine ownVia (fun _ k => XS.lrem X146.here hx rfl (hb hby at_106) rfl (by decide) k) ?_
      show ownFin _ _ _ _ _ (T146.setTop (mkF m 107 #[.val (.int p1), .val (.int p2), .val (.int p3), .val (.long q1), .second, .val (.long q2), .second, .val (.long q3), .second, .val (.int (1 : Int32)), .val (.int (((p1.toUInt32 >>> ((1 : Int32) &&& 31).toUInt32).toInt32) &&& (3 : Int32))), .val (.ref rf), .val (.int (0 : Int32)), .val .null, .val (.ref t0), .val (.ref sd), .val (.long (q1 - (q1 / (2147483648 : Int64)) * (2147483648 : Int64))), .second, .unset, .unset, .unset, .unset, .unset, .unset] [(.long (q2 - (q2 / (2147483648 : Int64)) * (2147483648 : Int64)))]))
      refine ownVia (fun _ k => XS.lstore X146.here hx rfl (hb hby at_107) rfl (l' := #[.val (.int p1), .val (.int p2), .val (.int p3), .val (.long q1), .second, .val (.long q2), .second, .val (.long q3), .second, .val (.int (1 : Int32)), .val (.int (((p1.toUInt32 >>> ((1 : Int32) &&& 31).toUInt32).toInt32) &&& (3 : Int32))), .val (.ref rf), .val (.int (0 : Int32)), .val .null, .val (.ref t0), .val (.ref sd), .val (.long (q1 - (q1 / (2147483648 : Int64)) * (2147483648 : Int64))), .second, .val (.long (q2 - (q2 / (2147483648 : Int64)) * (2147483648 : Int64))), .second, .unset, .unset, .unset, .unset]) rfl k) ?_
      show ownFin _ _ _ _ _ (T146.setTop (mkF m 109 #[.val (.int p1), .val (.int p2), .val (.int p3), .val (.long q1), .second, .val (.long q2), .second, .val (.long q3), .second, .val (.int (1 : Int32)), .val (.int (((p1.toUInt32 >>> ((1 : Int32) &&& 31).toUInt32).toInt32) &&& (3 : Int32))), .val (.ref rf), .val (.int (0 : Int32)), .val .null, .val (.ref t0), .val (.ref sd), .val (.long (q1 - (q1 / (2147483648 : Int64)) * (2147483648 : Int64))), .second, .val (.long (q2 - (q2 / (2147483648 : Int64)) * (2147483648 : Int64))), .second, .unset, .unset, .unset, .unset] []))
      refine ownVia (fun _ k => XS.lload X146.here hx rfl (hb hby at_109) rfl k) ?_
      show ownFin _ _ _ _ _ (T146.setTop (mkF m 111 #[.val (.int p1), .val (.int p2), .val (.int p3), .val (.long q1), .second, .val (.long q2), .second, .val (.long q3), .second, .val (.int (1 : Int32)), .val (.int (((p1.toUInt32 >>> ((1 : Int32) &&& 31).toUInt32).toInt32) &&& (3 : Int32))), .val (.ref rf), .val (.int (0 : Int32)), .val .null, .val (.ref t0), .val (.ref sd), .val (.long (q1 - (q1 / (2147483648 : Int64)) * (2147483648 : Int64))), .second, .val (.long (q2 - (q2 / (2147483648 : Int64)) * (2147483648 : Int64))), .second, .unset, .unset, .unset, .unset] [(.long q3)]))
      refine ownVia (fun _ k => X146.ldc2Long hx hown (mvT hZ (hw _ (List.mem_of_getElem? (i := 34) rfl))) (g := (mkF m 111 #[.val (.int p1), .val (.int p2), .val (.int p3), .val (.long q1), .second, .val (.long q2), .second, .val (.long q3), .second, .val (.int (1 : Int32)), .val (.int (((p1.toUInt32 >>> ((1 : Int32) &&& 31).toUInt32).toInt32) &&& (3 : Int32))), .val (.ref rf), .val (.int (0 : Int32)), .val .null, .val (.ref t0), .val (.ref sd), .val (.long (q1 - (q1 / (2147483648 : Int64)) * (2147483648 : Int64))), .second, .val (.long (q2 - (q2 / (2147483648 : Int64)) * (2147483648 : Int64))), .second, .unset, .unset, .unset, .unset] [(.long q3)])) rfl (hb hby at_111) _ k) ?_
      show ownFin _ _ _ _ _ (T146.setTop (mkF m 114 #[.val (.int p1), .val (.int p2), .val (.int p3), .val (.long q1), .second, .val (.long q2), .second, .val (.long q3), .second, .val (.int (1 : Int32)), .val (.int (((p1.toUInt32 >>> ((1 : Int32) &&& 31).toUInt32).toInt32) &&& (3 : Int32))), .val (.ref rf), .val (.int (0 : Int32)), .val .null, .val (.ref t0), .val (.ref sd), .val (.long (q1 - (q1 / (2147483648 : Int64)) * (2147483648 : Int64))), .second, .val (.long (q2 - (q2 / (2147483648 : Int64)) * (2147483648 : Int64))), .second, .unset, .unset, .unset, .unset] [(.long (2147483648 : Int64)), (.long q3)]))
      refine ownVia (fun _ k => XS.lrem X146.here hx rfl (hb hby at_114) rfl (by decide) k) ?_
      show ownFin _ _ _ _ _ (T146.setTop (mkF m 115 #[.val (.int p1), .val (.int p2), .val (.int p3), .val (.long q1), .second, .val (.long q2), .second, .val (.long q3), .second, .val (.int (1 : Int32)), .val (.int (((p1.toUInt32 >>> ((1 : Int32) &&& 31).toUInt32).toInt32) &&& (3 : Int32))), .val (.ref rf), .val (.int (0 : Int32)), .val .null, .val (.ref t0), .val (.ref sd), .val (.long (q1 - (q1 / (2147483648 : Int64)) * (2147483648 : Int64))), .second, .val (.long (q2 - (q2 / (2147483648 : Int64)) * (2147483648 : Int64))), .second, .unset, .unset, .unset, .unset] [(.long (q3 - (q3 / (2147483648 : Int64)) * (2147483648 : Int64)))]))
      refine ownVia (fun _ k => XS.lstore X146.here hx rfl (hb hby at_115) rfl (l' := #[.val (.int p1), .val (.int p2), .val (.int p3), .val (.long q1), .second, .val (.long q2), .second, .val (.long q3), .second, .val (.int (1 : Int32)), .val (.int (((p1.toUInt32 >>> ((1 : Int32) &&& 31).toUInt32).toInt32) &&& (3 : Int32))), .val (.ref rf), .val (.int (0 : Int32)), .val .null, .val (.ref t0), .val (.ref sd), .val (.long (q1 - (q1 / (2147483648 : Int64)) * (2147483648 : Int64))), .second, .val (.long (q2 - (q2 / (2147483648 : Int64)) * (2147483648 : Int64))), .second, .val (.long (q3 - (q3 / (2147483648 : Int64)) * (2147483648 : Int64))), .second, .unset, .unset]) rfl k) ?_
      show ownFin _ _ _ _ _ (T146.setTop (mkF m 117 #[.val (.int p1), .val (.int p2), .val (.int p3), .val (.long q1), .second, .val (.long q2), .second, .val (.long q3), .second, .val (.int (1 : Int32)), .val (.int (((p1.toUInt32 >>> ((1 : Int32) &&& 31).toUInt32).toInt32) &&& (3 : Int32))), .val (.ref rf), .val (.int (0 : Int32)), .val .null, .val (.ref t0), .val (.ref sd), .val (.long (q1 - (q1 / (2147483648 : Int64)) * (2147483648 : Int64))), .second, .val (.long (q2 - (q2 / (2147483648 : Int64)) * (2147483648 : Int64))), .second, .val (.long (q3 - (q3 / (2147483648 : Int64)) * (2147483648 : Int64))), .second, .unset, .unset] []))
      have hq1 := own_rem q1
      generalize h_y1 : (q1 - (q1 / (2147483648 : Int64)) * (2147483648 : Int64)) = y1
      show ownFin _ _ _ _ _ (T146.setTop (mkF m 117 #[.val (.int p1), .val (.int p2), .val (.int p3), .val (.long q1), .second, .val (.long q2), .second, .val (.long q3), .second, .val (.int (1 : Int32)), .val (.int (((p1.toUInt32 >>> ((1 : Int32) &&& 31).toUInt32).toInt32) &&& (3 : Int32))), .val (.ref rf), .val (.int (0 : Int32)), .val .null, .val (.ref t0), .val (.ref sd), .val (.long y1), .second, .val (.long (q2 - (q2 / (2147483648 : Int64)) * (2147483648 : Int64))), .second, .val (.long (q3 - (q3 / (2147483648 : Int64)) * (2147483648 : Int64))), .second, .unset, .unset] []))
      rw [h_y1] at hq1
      have hq2 := own_rem q2
      generalize h_y2 : (q2 - (q2 / (2147483648 : Int64)) * (2147483648 : Int64)) = y2
      show ownFin _ _ _ _ _ (T146.setTop (mkF m 117 #[.val (.int p1), .val (.int p2), .val (.int p3), .val (.long q1), .second, .val (.long q2), .second, .val (.long q3), .second, .val (.int (1 : Int32)), .val (.int (((p1.toUInt32 >>> ((1 : Int32) &&& 31).toUInt32).toInt32) &&& (3 : Int32))), .val (.ref rf), .val (.int (0 : Int32)), .val .null, .val (.ref t0), .val (.ref sd), .val (.long y1), .second, .val (.long y2), .second, .val (.long (q3 - (q3 / (2147483648 : Int64)) * (2147483648 : Int64))), .second, .unset, .unset] []))
      rw [h_y2] at hq2
      have hq3 := own_rem q3
      generalize h_y3 : (q3 - (q3 / (2147483648 : Int64)) * (2147483648 : Int64)) = y3
      show ownFin _ _ _ _ _ (T146.setTop (mkF m 117 #[.val (.int p1), .val (.int p2), .val (.int p3), .val (.long q1), .second, .val (.long q2), .second, .val (.long q3), .second, .val (.int (1 : Int32)), .val (.int (((p1.toUInt32 >>> ((1 : Int32) &&& 31).toUInt32).toInt32) &&& (3 : Int32))), .val (.ref rf), .val (.int (0 : Int32)), .val .null, .val (.ref t0), .val (.ref sd), .val (.long y1), .second, .val (.long y2), .second, .val (.long y3), .second, .unset, .unset] []))
      rw [h_y3] at hq3
      obtain ⟨T147, h147, X147, e147, E147, A147, D147, -, st147⟩ := newO X146 hx hZ hown (hw _ (List.mem_of_getElem? (i := 35) rfl)) (hw _ (List.mem_of_getElem? (i := 36) rfl)) (hw _ (List.mem_of_getElem? (i := 37) rfl)) e146 (g := (mkF m 117 #[.val (.int p1), .val (.int p2), .val (.int p3), .val (.long q1), .second, .val (.long q2), .second, .val (.long q3), .second, .val (.int (1 : Int32)), .val (.int (((p1.toUInt32 >>> ((1 : Int32) &&& 31).toUInt32).toInt32) &&& (3 : Int32))), .val (.ref rf), .val (.int (0 : Int32)), .val .null, .val (.ref t0), .val (.ref sd), .val (.long y1), .second, .val (.long y2), .second, .val (.long y3), .second, .unset, .unset] [])) rfl (hb hby at_117) (by decide) (by decide)
      obtain ⟨b1, g147⟩ : ∃ z, z = T145.heap.size := ⟨_, rfl⟩
      rw [← g147] at A147 D147 st147
      have ge_b1 : n0 ≤ b1 := Nat.le_trans Z0 (Nat.le_of_eq g147.symm)
      have O := O.ext E147
      have Z0 := own_sz Z0 E147
      have hk := own_sz hk E147
      have E_b1 := A147
      have F_b1_outTradeNo : Fld Z h147 b1 "com/example/tillbridge/tillbridge/channel/Bill$Line" "outTradeNo" "Ljava/lang/String;" .null := D147 (Or.inr (hw _ (List.mem_of_getElem? (i := 54) rfl))) (ty := (.object "java/lang/String")) (by decide)
      have F_b1_outRefundNo : Fld Z h147 b1 "com/example/tillbridge/tillbridge/channel/Bill$Line" "outRefundNo" "Ljava/lang/String;" .null := D147 (Or.inr (hw _ (List.mem_of_getElem? (i := 56) rfl))) (ty := (.object "java/lang/String")) (by decide)
      have F_b1_state : Fld Z h147 b1 "com/example/tillbridge/tillbridge/channel/Bill$Line" "state" "Ljava/lang/String;" .null := D147 (Or.inr (hw _ (List.mem_of_getElem? (i := 58) rfl))) (ty := (.object "java/lang/String")) (by decide)
      have F_b1_standing : Fld Z h147 b1 "com/example/tillbridge/tillbridge/channel/Bill$Line" "standing" "Lcom/example/tillbridge/tillbridge/channel/Bill$Standing;" .null := D147 (Or.inr (hw _ (List.mem_of_getElem? (i := 60) rfl))) (ty := (.object "com/example/tillbridge/tillbridge/channel/Bill$Standing")) (by decide)
      have F_b1_amount : Fld Z h147 b1 "com/example/tillbridge/tillbridge/channel/Bill$Line" "amount" "J" (.long (0 : Int64)) := D147 (Or.inr (hw _ (List.mem_of_getElem? (i := 62) rfl))) (ty := .long) (by decide)
      have F_b1_couponRefund : Fld Z h147 b1 "com/example/tillbridge/tillbridge/channel/Bill$Line" "couponRefund" "J" (.long (0 : Int64)) := D147 (Or.inr (hw _ (List.mem_of_getElem? (i := 64) rfl))) (ty := .long) (by decide)
      have F_b1_fee : Fld Z h147 b1 "com/example/tillbridge/tillbridge/channel/Bill$Line" "fee" "J" (.long (0 : Int64)) := D147 (Or.inr (hw _ (List.mem_of_getElem? (i := 66) rfl))) (ty := .long) (by decide)
      refine ownVia st147 ?_
      show ownFin _ _ _ _ _ (T147.setTop (mkF m 120 #[.val (.int p1), .val (.int p2), .val (.int p3), .val (.long q1), .second, .val (.long q2), .second, .val (.long q3), .second, .val (.int (1 : Int32)), .val (.int (((p1.toUInt32 >>> ((1 : Int32) &&& 31).toUInt32).toInt32) &&& (3 : Int32))), .val (.ref rf), .val (.int (0 : Int32)), .val .null, .val (.ref t0), .val (.ref sd), .val (.long y1), .second, .val (.long y2), .second, .val (.long y3), .second, .unset, .unset] [(.ref b1)]))
      refine ownVia (fun _ k => XS.dup X147.here hx rfl (hb hby at_120) rfl rfl k) ?_
      show ownFin _ _ _ _ _ (T147.setTop (mkF m 121 #[.val (.int p1), .val (.int p2), .val (.int p3), .val (.long q1), .second, .val (.long q2), .second, .val (.long q3), .second, .val (.int (1 : Int32)), .val (.int (((p1.toUInt32 >>> ((1 : Int32) &&& 31).toUInt32).toInt32) &&& (3 : Int32))), .val (.ref rf), .val (.int (0 : Int32)), .val .null, .val (.ref t0), .val (.ref sd), .val (.long y1), .second, .val (.long y2), .second, .val (.long y3), .second, .unset, .unset] [(.ref b1), (.ref b1)]))
      refine ownVia (fun _ k => XS.aload X147.here hx rfl (hb hby at_121) rfl rfl k) ?_
      show ownFin _ _ _ _ _ (T147.setTop (mkF m 123 #[.val (.int p1), .val (.int p2), .val (.int p3), .val (.long q1), .second, .val (.long q2), .second, .val (.long q3), .second, .val (.int (1 : Int32)), .val (.int (((p1.toUInt32 >>> ((1 : Int32) &&& 31).toUInt32).toInt32) &&& (3 : Int32))), .val (.ref rf), .val (.int (0 : Int32)), .val .null, .val (.ref t0), .val (.ref sd), .val (.long y1), .second, .val (.long y2), .second, .val (.long y3), .second, .unset, .unset] [(.ref t0), (.ref b1), (.ref b1)]))
      refine ownVia (fun _ k => XS.aload X147.here hx rfl (hb hby at_123) rfl rfl k) ?_
      show ownFin _ _ _ _ _ (T147.setTop (mkF m 125 #[.val (.int p1), .val (.int p2), .val (.int p3), .val (.long q1), .second, .val (.long q2), .second, .val (.long q3), .second, .val (.int (1 : Int32)), .val (.int (((p1.toUInt32 >>> ((1 : Int32) &&& 31).toUInt32).toInt32) &&& (3 : Int32))), .val (.ref rf), .val (.int (0 : Int32)), .val .null, .val (.ref t0), .val (.ref sd), .val (.long y1), .second, .val (.long y2), .second, .val (.long y3), .second, .unset, .unset] [(.ref rf), (.ref t0), (.ref b1), (.ref b1)]))
      refine ownVia (fun _ k => XS.aload X147.here hx rfl (hb hby at_125) rfl rfl k) ?_
      show ownFin _ _ _ _ _ (T147.setTop (mkF m 127 #[.val (.int p1), .val (.int p2), .val (.int p3), .val (.long q1), .second, .val (.long q2), .second, .val (.long q3), .second, .val (.int (1 : Int32)), .val (.int (((p1.toUInt32 >>> ((1 : Int32) &&& 31).toUInt32).toInt32) &&& (3 : Int32))), .val (.ref rf), .val (.int (0 : Int32)), .val .null, .val (.ref t0), .val (.ref sd), .val (.long y1), .second, .val (.long y2), .second, .val (.long y3), .second, .unset, .unset] [.null, (.ref rf), (.ref t0), (.ref b1), (.ref b1)]))
      refine ownVia (fun _ k => XS.aload X147.here hx rfl (hb hby at_127) rfl rfl k) ?_
      show ownFin _ _ _ _ _ (T147.setTop (mkF m 129 #[.val (.int p1), .val (.int p2), .val (.int p3), .val (.long q1), .second, .val (.long q2), .second, .val (.long q3), .second, .val (.int (1 : Int32)), .val (.int (((p1.toUInt32 >>> ((1 : Int32) &&& 31).toUInt32).toInt32) &&& (3 : Int32))), .val (.ref rf), .val (.int (0 : Int32)), .val .null, .val (.ref t0), .val (.ref sd), .val (.long y1), .second, .val (.long y2), .second, .val (.long y3), .second, .unset, .unset] [(.ref sd), .null, (.ref rf), (.ref t0), (.ref b1), (.ref b1)]))
      refine ownVia (fun _ k => XS.lload X147.here hx rfl (hb hby at_129) rfl k) ?_
      show ownFin _ _ _ _ _ (T147.setTop (mkF m 131 #[.val (.int p1), .val (.int p2), .val (.int p3), .val (.long q1), .second, .val (.long q2), .second, .val (.long q3), .second, .val (.int (1 : Int32)), .val (.int (((p1.toUInt32 >>> ((1 : Int32) &&& 31).toUInt32).toInt32) &&& (3 : Int32))), .val (.ref rf), .val (.int (0 : Int32)), .val .null, .val (.ref t0), .val (.ref sd), .val (.long y1), .second, .val (.long y2), .second, .val (.long y3), .second, .unset, .unset] [(.long y1), (.ref sd), .null, (.ref rf), (.ref t0), (.ref b1), (.ref b1)]))
      refine ownVia (fun _ k => XS.lload X147.here hx rfl (hb hby at_131) rfl k) ?_
      show ownFin _ _ _ _ _ (T147.setTop (mkF m 133 #[.val (.int p1), .val (.int p2), .val (.int p3), .val (.long q1), .second, .val (.long q2), .second, .val (.long q3), .second, .val (.int (1 : Int32)), .val (.int (((p1.toUInt32 >>> ((1 : Int32) &&& 31).toUInt32).toInt32) &&& (3 : Int32))), .val (.ref rf), .val (.int (0 : Int32)), .val .null, .val (.ref t0), .val (.ref sd), .val (.long y1), .second, .val (.long y2), .second, .val (.long y3), .second, .unset, .unset] [(.long y2), (.long y1), (.ref sd), .null, (.ref rf), (.ref t0), (.ref b1), (.ref b1)]))
      refine ownVia (fun _ k => XS.lload X147.here hx rfl (hb hby at_133) rfl k) ?_
      show ownFin _ _ _ _ _ (T147.setTop (mkF m 135 #[.val (.int p1), .val (.int p2), .val (.int p3), .val (.long q1), .second, .val (.long q2), .second, .val (.long q3), .second, .val (.int (1 : Int32)), .val (.int (((p1.toUInt32 >>> ((1 : Int32) &&& 31).toUInt32).toInt32) &&& (3 : Int32))), .val (.ref rf), .val (.int (0 : Int32)), .val .null, .val (.ref t0), .val (.ref sd), .val (.long y1), .second, .val (.long y2), .second, .val (.long y3), .second, .unset, .unset] [(.long y3), (.long y2), (.long y1), (.ref sd), .null, (.ref rf), (.ref t0), (.ref b1), (.ref b1)]))
      refine ownCallN X147 hx hZ hown rfl (hw _ (List.mem_of_getElem? (i := 38) rfl)) (hw _ (List.mem_of_getElem? (i := 39) rfl)) (hw _ (List.mem_of_getElem? (i := 37) rfl)) (hw _ (List.mem_of_getElem? (i := 40) rfl)) (by decide) e147 (own_line_rn l Z a0 hw b1 t0 rf sd y1 y2 y3 h147 n0 Z0 F_b1_outTradeNo F_b1_outRefundNo F_b1_state F_b1_standing F_b1_amount F_b1_couponRefund F_b1_fee E_b1 ge_b1 hq1 hq2 hq3) (by rw [hml]; rfl) b1 [(.ref t0), (.ref rf), .null, (.ref sd), (.long y1), (.long y2), (.long y3)] [(.ref b1)] (lenOf own_pd12 rfl) rfl rfl 1 rfl (hb hby at_135) (by decide) (by decide) (by decide) (by decide) ?_
      intro v148 T148 L148 X148 hq148
      obtain ⟨rfl, N148q, K148, F_b1⟩ := hq148
      have E_b1 := E_b1.keep K148
      have Z0 := Nat.le_trans Z0 K148.1
      have hk := Nat.le_trans hk K148.1
      have O := O.keep K148 (allS ge_b1 all0)
      have N148 := Fr.app N146 N148q
      show ownFin _ _ _ _ _ (T148.setTop (mkF m 138 #[.val (.int p1), .val (.int p2), .val (.int p3), .val (.long q1), .second, .val (.long q2), .second, .val (.long q3), .second, .val (.int (1 : Int32)), .val (.int (((p1.toUInt32 >>> ((1 : Int32) &&& 31).toUInt32).toInt32) &&& (3 : Int32))), .val (.ref rf), .val (.int (0 : Int32)), .val .null, .val (.ref t0), .val (.ref sd), .val (.long y1), .second, .val (.long y2), .second, .val (.long y3), .second, .unset, .unset] [(.ref b1)]))
      refine ownVia (fun _ k => XS.astore X148.here hx rfl (hb hby at_138) rfl rfl (l' := #[.val (.int p1), .val (.int p2), .val (.int p3), .val (.long q1), .second, .val (.long q2), .second, .val (.long q3), .second, .val (.int (1 : Int32)), .val (.int (((p1.toUInt32 >>> ((1 : Int32) &&& 31).toUInt32).toInt32) &&& (3 : Int32))), .val (.ref rf), .val (.int (0 : Int32)), .val .null, .val (.ref t0), .val (.ref sd), .val (.long y1), .second, .val (.long y2), .second, .val (.long y3), .second, .val (.ref b1), .unset]) rfl k) ?_
      show ownFin _ _ _ _ _ (T148.setTop (mkF m 140 #[.val (.int p1), .val (.int p2), .val (.int p3), .val (.long q1), .second, .val (.long q2), .second, .val (.long q3), .second, .val (.int (1 : Int32)), .val (.int (((p1.toUInt32 >>> ((1 : Int32) &&& 31).toUInt32).toInt32) &&& (3 : Int32))), .val (.ref rf), .val (.int (0 : Int32)), .val .null, .val (.ref t0), .val (.ref sd), .val (.long y1), .second, .val (.long y2), .second, .val (.long y3), .second, .val (.ref b1), .unset] []))
      refine ownVia (fun _ k => XS.iload X148.here hx rfl (hb hby at_140) rfl k) ?_
      show ownFin _ _ _ _ _ (T148.setTop (mkF m 142 #[.val (.int p1), .val (.int p2), .val (.int p3), .val (.long q1), .second, .val (.long q2), .second, .val (.long q3), .second, .val (.int (1 : Int32)), .val (.int (((p1.toUInt32 >>> ((1 : Int32) &&& 31).toUInt32).toInt32) &&& (3 : Int32))), .val (.ref rf), .val (.int (0 : Int32)), .val .null, .val (.ref t0), .val (.ref sd), .val (.long y1), .second, .val (.long y2), .second, .val (.long y3), .second, .val (.ref b1), .unset] [(.int (1 : Int32))]))
      refine ownVia (fun _ k => XS.istore X148.here hx rfl (hb hby at_142) rfl (l' := #[.val (.int p1), .val (.int p2), .val (.int p3), .val (.long q1), .second, .val (.long q2), .second, .val (.long q3), .second, .val (.int (1 : Int32)), .val (.int (((p1.toUInt32 >>> ((1 : Int32) &&& 31).toUInt32).toInt32) &&& (3 : Int32))), .val (.ref rf), .val (.int (0 : Int32)), .val .null, .val (.ref t0), .val (.ref sd), .val (.long y1), .second, .val (.long y2), .second, .val (.long y3), .second, .val (.ref b1), .val (.int (1 : Int32))]) rfl k) ?_
      show ownFin _ _ _ _ _ (T148.setTop (mkF m 144 #[.val (.int p1), .val (.int p2), .val (.int p3), .val (.long q1), .second, .val (.long q2), .second, .val (.long q3), .second, .val (.int (1 : Int32)), .val (.int (((p1.toUInt32 >>> ((1 : Int32) &&& 31).toUInt32).toInt32) &&& (3 : Int32))), .val (.ref rf), .val (.int (0 : Int32)), .val .null, .val (.ref t0), .val (.ref sd), .val (.long y1), .second, .val (.long y2), .second, .val (.long y3), .second, .val (.ref b1), .val (.int (1 : Int32))] []))
      refine ownVia (fun _ k => XS.aload X148.here hx rfl (hb hby at_144) rfl rfl k) ?_
      show ownFin _ _ _ _ _ (T148.setTop (mkF m 146 #[.val (.int p1), .val (.int p2), .val (.int p3), .val (.long q1), .second, .val (.long q2), .second, .val (.long q3), .second, .val (.int (1 : Int32)), .val (.int (((p1.toUInt32 >>> ((1 : Int32) &&& 31).toUInt32).toInt32) &&& (3 : Int32))), .val (.ref rf), .val (.int (0 : Int32)), .val .null, .val (.ref t0), .val (.ref sd), .val (.long y1), .second, .val (.long y2), .second, .val (.long y3), .second, .val (.ref b1), .val (.int (1 : Int32))] [(.ref b1)]))
      refine ownCallV X148 hx hZ hown (hw _ (List.mem_of_getElem? (i := 67) rfl)) (hw _ (List.mem_of_getElem? (i := 68) rfl)) (hw _ (List.mem_of_getElem? (i := 70) rfl)) (hw _ (List.mem_of_getElem? (i := 70) rfl)) (hw _ (List.mem_of_getElem? (i := 69) rfl)) (hw _ (List.mem_of_getElem? (i := 37) rfl)) (hw _ (List.mem_of_getElem? (i := 71) rfl)) (by decide) (rfl : T148.heap = T148.heap) E_b1 (own_isr_r l Z a0 hw b1 T148.heap n0 rf Z0 F_b1) (by rw [hml]; rfl) [] [] (lenOf own_pd13 rfl) rfl rfl 0 rfl (hb hby at_146) (by decide) (by decide) (by decide) (by decide) ?_
      intro v149 T149 L149 X149 hq149
      obtain ⟨rfl, N149q, eq149⟩ := hq149
      have N149 := Fr.app N148 N149q
      have e149 : T149.heap = T148.heap := eq149
      show ownFin _ _ _ _ _ (T149.setTop (mkF m 149 #[.val (.int p1), .val (.int p2), .val (.int p3), .val (.long q1), .second, .val (.long q2), .second, .val (.long q3), .second, .val (.int (1 : Int32)), .val (.int (((p1.toUInt32 >>> ((1 : Int32) &&& 31).toUInt32).toInt32) &&& (3 : Int32))), .val (.ref rf), .val (.int (0 : Int32)), .val .null, .val (.ref t0), .val (.ref sd), .val (.long y1), .second, .val (.long y2), .second, .val (.long y3), .second, .val (.ref b1), .val (.int (1 : Int32))] [(.int (1 : Int32))]))
      refine ownVia (fun _ k => XS.iload X149.here hx rfl (hb hby at_149) rfl k) ?_
      show ownFin _ _ _ _ _ (T149.setTop (mkF m 151 #[.val (.int p1), .val (.int p2), .val (.int p3), .val (.long q1), .second, .val (.long q2), .second, .val (.long q3), .second, .val (.int (1 : Int32)), .val (.int (((p1.toUInt32 >>> ((1 : Int32) &&& 31).toUInt32).toInt32) &&& (3 : Int32))), .val (.ref rf), .val (.int (0 : Int32)), .val .null, .val (.ref t0), .val (.ref sd), .val (.long y1), .second, .val (.long y2), .second, .val (.long y3), .second, .val (.ref b1), .val (.int (1 : Int32))] [(.int (1 : Int32)), (.int (1 : Int32))]))
      refine ownVia (fun _ k => XS.icmpNo X149.here hx rfl (hb hby at_151) rfl (teq rfl).2 k) ?_
      show ownFin _ _ _ _ _ (T149.setTop (mkF m 154 #[.val (.int p1), .val (.int p2), .val (.int p3), .val (.long q1), .second, .val (.long q2), .second, .val (.long q3), .second, .val (.int (1 : Int32)), .val (.int (((p1.toUInt32 >>> ((1 : Int32) &&& 31).toUInt32).toInt32) &&& (3 : Int32))), .val (.ref rf), .val (.int (0 : Int32)), .val .null, .val (.ref t0), .val (.ref sd), .val (.long y1), .second, .val (.long y2), .second, .val (.long y3), .second, .val (.ref b1), .val (.int (1 : Int32))] []))
      refine ownVia (fun _ k => XS.iconst X149.here hx rfl (hb hby at_154) k) ?_
      show ownFin _ _ _ _ _ (T149.setTop (mkF m 155 #[.val (.int p1), .val (.int p2), .val (.int p3), .val (.long q1), .second, .val (.long q2), .second, .val (.long q3), .second, .val (.int (1 : Int32)), .val (.int (((p1.toUInt32 >>> ((1 : Int32) &&& 31).toUInt32).toInt32) &&& (3 : Int32))), .val (.ref rf), .val (.int (0 : Int32)), .val .null, .val (.ref t0), .val (.ref sd), .val (.long y1), .second, .val (.long y2), .second, .val (.long y3), .second, .val (.ref b1), .val (.int (1 : Int32))] [(.int (1 : Int32))]))
      refine ownVia (fun _ k => XS.goto X149.here hx rfl (pc0 := 155) (pc' := 159) rfl (hb hby at_155) (by decide) (by decide) k) ?_
      show ownFin _ _ _ _ _ (T149.setTop (mkF m 159 #[.val (.int p1), .val (.int p2), .val (.int p3), .val (.long q1), .second, .val (.long q2), .second, .val (.long q3), .second, .val (.int (1 : Int32)), .val (.int (((p1.toUInt32 >>> ((1 : Int32) &&& 31).toUInt32).toInt32) &&& (3 : Int32))), .val (.ref rf), .val (.int (0 : Int32)), .val .null, .val (.ref t0), .val (.ref sd), .val (.long y1), .second, .val (.long y2), .second, .val (.long y3), .second, .val (.ref b1), .val (.int (1 : Int32))] [(.int (1 : Int32))]))
      refine ownRetZW X149 hx hlk hS (by first | exact hk | (rw [e149]; exact hk)) hret (hb hby at_159) (by decide) (by decide) (Or.inr rfl) ?_
      show (Q_own_law Z p1 p2 p3 q1 q2 q3 h0 n0 cs0) (some (.int (1 : Int32))) T149.heap _
      rw [e149]
      exact ⟨rfl, N149⟩
    case neg =>
      have hc144I : ¬ (((p1.toUInt32 >>> ((3 : Int32) &&& 31).toUInt32).toInt32) &&& (1 : Int32)).toInt = 0 := fun q => hc144 ((own_eqi rfl (by decide)).mpr q)
      refine ownVia (fun _ k => XS.ifNo X143.here hx rfl (hb hby at_42) rfl ((if0 _ _).trans (feq hc144).1) k) ?_
      show ownFin _ _ _ _ _ (T143.setTop (mkF m 45 #[.val (.int p1), .val (.int p2), .val (.int p3), .val (.long q1), .second, .val (.long q2), .second, .val (.long q3), .second, .val (.int (1 : Int32)), .val (.int (((p1.toUInt32 >>> ((1 : Int32) &&& 31).toUInt32).toInt32) &&& (3 : Int32))), .val (.ref rf), .unset, .unset, .unset, .unset, .unset, .unset, .unset, .unset, .unset, .unset, .unset, .unset] []))
      refine ownVia (fun _ k => XS.iconst X143.here hx rfl (hb hby at_45) k) ?_
      show ownFin _ _ _ _ _ (T143.setTop (mkF m 46 #[.val (.int p1), .val (.int p2), .val (.int p3), .val (.long q1), .second, .val (.long q2), .second, .val (.long q3), .second, .val (.int (1 : Int32)), .val (.int (((p1.toUInt32 >>> ((1 : Int32) &&& 31).toUInt32).toInt32) &&& (3 : Int32))), .val (.ref rf), .unset, .unset, .unset, .unset, .unset, .unset, .unset, .unset, .unset, .unset, .unset, .unset] [(.int (1 : Int32))]))
      refine ownVia (fun _ k => XS.goto X143.here hx rfl (pc0 := 46) (pc' := 50) rfl (hb hby at_46) (by decide) (by decide) k) ?_
      show ownFin _ _ _ _ _ (T143.setTop (mkF m 50 #[.val (.int p1), .val (.int p2), .val (.int p3), .val (.long q1), .second, .val (.long q2), .second, .val (.long q3), .second, .val (.int (1 : Int32)), .val (.int (((p1.toUInt32 >>> ((1 : Int32) &&& 31).toUInt32).toInt32) &&& (3 : Int32))), .val (.ref rf), .unset, .unset, .unset, .unset, .unset, .unset, .unset, .unset, .unset, .unset, .unset, .unset] [(.int (1 : Int32))]))
      refine ownVia (fun _ k => XS.istore X143.here hx rfl (hb hby at_50) rfl (l' := #[.val (.int p1), .val (.int p2), .val (.int p3), .val (.long q1), .second, .val (.long q2), .second, .val (.long q3), .second, .val (.int (1 : Int32)), .val (.int (((p1.toUInt32 >>> ((1 : Int32) &&& 31).toUInt32).toInt32) &&& (3 : Int32))), .val (.ref rf), .val (.int (1 : Int32)), .unset, .unset, .unset, .unset, .unset, .unset, .unset, .unset, .unset, .unset, .unset]) rfl k) ?_
      show ownFin _ _ _ _ _ (T143.setTop (mkF m 52 #[.val (.int p1), .val (.int p2), .val (.int p3), .val (.long q1), .second, .val (.long q2), .second, .val (.long q3), .second, .val (.int (1 : Int32)), .val (.int (((p1.toUInt32 >>> ((1 : Int32) &&& 31).toUInt32).toInt32) &&& (3 : Int32))), .val (.ref rf), .val (.int (1 : Int32)), .unset, .unset, .unset, .unset, .unset, .unset, .unset, .unset, .unset, .unset, .unset] []))
      refine ownVia (fun _ k => XS.iload X143.here hx rfl (hb hby at_52) rfl k) ?_
      show ownFin _ _ _ _ _ (T143.setTop (mkF m 54 #[.val (.int p1), .val (.int p2), .val (.int p3), .val (.long q1), .second, .val (.long q2), .second, .val (.long q3), .second, .val (.int (1 : Int32)), .val (.int (((p1.toUInt32 >>> ((1 : Int32) &&& 31).toUInt32).toInt32) &&& (3 : Int32))), .val (.ref rf), .val (.int (1 : Int32)), .unset, .unset, .unset, .unset, .unset, .unset, .unset, .unset, .unset, .unset, .unset] [(.int (1 : Int32))]))
      refine ownVia (fun _ k => XS.ifNo X143.here hx rfl (hb hby at_54) rfl ((if0 _ _).trans (feq (by decide)).1) k) ?_
      show ownFin _ _ _ _ _ (T143.setTop (mkF m 57 #[.val (.int p1), .val (.int p2), .val (.int p3), .val (.long q1), .second, .val (.long q2), .second, .val (.long q3), .second, .val (.int (1 : Int32)), .val (.int (((p1.toUInt32 >>> ((1 : Int32) &&& 31).toUInt32).toInt32) &&& (3 : Int32))), .val (.ref rf), .val (.int (1 : Int32)), .unset, .unset, .unset, .unset, .unset, .unset, .unset, .unset, .unset, .unset, .unset] []))
      refine ownVia (fun _ k => XS.iloadN X143.here hx rfl (hb hby at_57) rfl k) ?_
      show ownFin _ _ _ _ _ (T143.setTop (mkF m 58 #[.val (.int p1), .val (.int p2), .val (.int p3), .val (.long q1), .second, .val (.long q2), .second, .val (.long q3), .second, .val (.int (1 : Int32)), .val (.int (((p1.toUInt32 >>> ((1 : Int32) &&& 31).toUInt32).toInt32) &&& (3 : Int32))), .val (.ref rf), .val (.int (1 : Int32)), .unset, .unset, .unset, .unset, .unset, .unset, .unset, .unset, .unset, .unset, .unset] [(.int p1)]))
      refine ownVia (fun _ k => XS.iconst X143.here hx rfl (hb hby at_58) k) ?_
      show ownFin _ _ _ _ _ (T143.setTop (mkF m 59 #[.val (.int p1), .val (.int p2), .val (.int p3), .val (.long q1), .second, .val (.long q2), .second, .val (.long q3), .second, .val (.int (1 : Int32)), .val (.int (((p1.toUInt32 >>> ((1 : Int32) &&& 31).toUInt32).toInt32) &&& (3 : Int32))), .val (.ref rf), .val (.int (1 : Int32)), .unset, .unset, .unset, .unset, .unset, .unset, .unset, .unset, .unset, .unset, .unset] [(.int (4 : Int32)), (.int p1)]))
      refine ownVia (fun _ k => XS.iushr X143.here hx rfl (hb hby at_59) rfl k) ?_
      show ownFin _ _ _ _ _ (T143.setTop (mkF m 60 #[.val (.int p1), .val (.int p2), .val (.int p3), .val (.long q1), .second, .val (.long q2), .second, .val (.long q3), .second, .val (.int (1 : Int32)), .val (.int (((p1.toUInt32 >>> ((1 : Int32) &&& 31).toUInt32).toInt32) &&& (3 : Int32))), .val (.ref rf), .val (.int (1 : Int32)), .unset, .unset, .unset, .unset, .unset, .unset, .unset, .unset, .unset, .unset, .unset] [(.int ((p1.toUInt32 >>> ((4 : Int32) &&& 31).toUInt32).toInt32))]))
      refine ownVia (fun _ k => XS.sipush X143.here hx rfl (hb hby at_60) k) ?_
      show ownFin _ _ _ _ _ (T143.setTop (mkF m 63 #[.val (.int p1), .val (.int p2), .val (.int p3), .val (.long q1), .second, .val (.long q2), .second, .val (.long q3), .second, .val (.int (1 : Int32)), .val (.int (((p1.toUInt32 >>> ((1 : Int32) &&& 31).toUInt32).toInt32) &&& (3 : Int32))), .val (.ref rf), .val (.int (1 : Int32)), .unset, .unset, .unset, .unset, .unset, .unset, .unset, .unset, .unset, .unset, .unset] [(.int (255 : Int32)), (.int ((p1.toUInt32 >>> ((4 : Int32) &&& 31).toUInt32).toInt32))]))
      refine ownVia (fun _ k => XS.iand X143.here hx rfl (hb hby at_63) rfl k) ?_
      show ownFin _ _ _ _ _ (T143.setTop (mkF m 64 #[.val (.int p1), .val (.int p2), .val (.int p3), .val (.long q1), .second, .val (.long q2), .second, .val (.long q3), .second, .val (.int (1 : Int32)), .val (.int (((p1.toUInt32 >>> ((1 : Int32) &&& 31).toUInt32).toInt32) &&& (3 : Int32))), .val (.ref rf), .val (.int (1 : Int32)), .unset, .unset, .unset, .unset, .unset, .unset, .unset, .unset, .unset, .unset, .unset] [(.int (((p1.toUInt32 >>> ((4 : Int32) &&& 31).toUInt32).toInt32) &&& (255 : Int32)))]))
      refine ownVia (fun _ k => XS.i2c X143.here hx rfl (hb hby at_64) rfl k) ?_
      show ownFin _ _ _ _ _ (T143.setTop (mkF m 65 #[.val (.int p1), .val (.int p2), .val (.int p3), .val (.long q1), .second, .val (.long q2), .second, .val (.long q3), .second, .val (.int (1 : Int32)), .val (.int (((p1.toUInt32 >>> ((1 : Int32) &&& 31).toUInt32).toInt32) &&& (3 : Int32))), .val (.ref rf), .val (.int (1 : Int32)), .unset, .unset, .unset, .unset, .unset, .unset, .unset, .unset, .unset, .unset, .unset] [(.int ((((p1.toUInt32 >>> ((4 : Int32) &&& 31).toUInt32).toInt32) &&& (255 : Int32)).toUInt32.toUInt16.toUInt32.toInt32))]))
      refine ownCallS X143 hx hZ hown (hw _ (List.mem_of_getElem? (i := 0) rfl)) (hw _ (List.mem_of_getElem? (i := 1) rfl)) (hw _ (List.mem_of_getElem? (i := 2) rfl)) (hw _ (List.mem_of_getElem? (i := 3) rfl)) (by decide) (rfl : T143.heap = T143.heap) (own_vof l Z a0 hw ((((p1.toUInt32 >>> ((4 : Int32) &&& 31).toUInt32).toInt32) &&& (255 : Int32)).toUInt32.toUInt16.toUInt32.toInt32) T143.heap n0 cs0 Z0 O S_c hcs (own_ch _).2) (by rw [hml]; rfl) [(.int ((((p1.toUInt32 >>> ((4 : Int32) &&& 31).toUInt32).toInt32) &&& (255 : Int32)).toUInt32.toUInt16.toUInt32.toInt32))] [] (lenOf own_pd10 rfl) rfl rfl 0 rfl (hb hby at_65) (by decide) (by decide) (by decide) (by decide) ?_
      intro v150 T150 L150 X150 hq150
      obtain ⟨t0, rfl, N150q, K150, sq150⟩ := hq150
      have Z0 := Nat.le_trans Z0 K150.1
      have hk := Nat.le_trans hk K150.1
      have O := O.keep K150 all0
      have N150 := Fr.app N143 N150q
      show ownFin _ _ _ _ _ (T150.setTop (mkF m 68 #[.val (.int p1), .val (.int p2), .val (.int p3), .val (.long q1), .second, .val (.long q2), .second, .val (.long q3), .second, .val (.int (1 : Int32)), .val (.int (((p1.toUInt32 >>> ((1 : Int32) &&& 31).toUInt32).toInt32) &&& (3 : Int32))), .val (.ref rf), .val (.int (1 : Int32)), .unset, .unset, .unset, .unset, .unset, .unset, .unset, .unset, .unset, .unset, .unset] [(.ref t0)]))
      refine ownVia (fun _ k => XS.goto X150.here hx rfl (pc0 := 68) (pc' := 72) rfl (hb hby at_68) (by decide) (by decide) k) ?_
      show ownFin _ _ _ _ _ (T150.setTop (mkF m 72 #[.val (.int p1), .val (.int p2), .val (.int p3), .val (.long q1), .second, .val (.long q2), .second, .val (.long q3), .second, .val (.int (1 : Int32)), .val (.int (((p1.toUInt32 >>> ((1 : Int32) &&& 31).toUInt32).toInt32) &&& (3 : Int32))), .val (.ref rf), .val (.int (1 : Int32)), .unset, .unset, .unset, .unset, .unset, .unset, .unset, .unset, .unset, .unset, .unset] [(.ref t0)]))
      refine ownVia (fun _ k => XS.astore X150.here hx rfl (hb hby at_72) rfl rfl (l' := #[.val (.int p1), .val (.int p2), .val (.int p3), .val (.long q1), .second, .val (.long q2), .second, .val (.long q3), .second, .val (.int (1 : Int32)), .val (.int (((p1.toUInt32 >>> ((1 : Int32) &&& 31).toUInt32).toInt32) &&& (3 : Int32))), .val (.ref rf), .val (.int (1 : Int32)), .val (.ref t0), .unset, .unset, .unset, .unset, .unset, .unset, .unset, .unset, .unset, .unset]) rfl k) ?_
      show ownFin _ _ _ _ _ (T150.setTop (mkF m 74 #[.val (.int p1), .val (.int p2), .val (.int p3), .val (.long q1), .second, .val (.long q2), .second, .val (.long q3), .second, .val (.int (1 : Int32)), .val (.int (((p1.toUInt32 >>> ((1 : Int32) &&& 31).toUInt32).toInt32) &&& (3 : Int32))), .val (.ref rf), .val (.int (1 : Int32)), .val (.ref t0), .unset, .unset, .unset, .unset, .unset, .unset, .unset, .unset, .unset, .unset] []))
      refine ownVia (fun _ k => XS.iloadN X150.here hx rfl (hb hby at_74) rfl k) ?_
      show ownFin _ _ _ _ _ (T150.setTop (mkF m 75 #[.val (.int p1), .val (.int p2), .val (.int p3), .val (.long q1), .second, .val (.long q2), .second, .val (.long q3), .second, .val (.int (1 : Int32)), .val (.int (((p1.toUInt32 >>> ((1 : Int32) &&& 31).toUInt32).toInt32) &&& (3 : Int32))), .val (.ref rf), .val (.int (1 : Int32)), .val (.ref t0), .unset, .unset, .unset, .unset, .unset, .unset, .unset, .unset, .unset, .unset] [(.int p2)]))
      refine ownVia (fun _ k => XS.bipush X150.here hx rfl (hb hby at_75) k) ?_
      show ownFin _ _ _ _ _ (T150.setTop (mkF m 77 #[.val (.int p1), .val (.int p2), .val (.int p3), .val (.long q1), .second, .val (.long q2), .second, .val (.long q3), .second, .val (.int (1 : Int32)), .val (.int (((p1.toUInt32 >>> ((1 : Int32) &&& 31).toUInt32).toInt32) &&& (3 : Int32))), .val (.ref rf), .val (.int (1 : Int32)), .val (.ref t0), .unset, .unset, .unset, .unset, .unset, .unset, .unset, .unset, .unset, .unset] [(.int (8 : Int32)), (.int p2)]))
      refine ownVia (fun _ k => XS.iushr X150.here hx rfl (hb hby at_77) rfl k) ?_
      show ownFin _ _ _ _ _ (T150.setTop (mkF m 78 #[.val (.int p1), .val (.int p2), .val (.int p3), .val (.long q1), .second, .val (.long q2), .second, .val (.long q3), .second, .val (.int (1 : Int32)), .val (.int (((p1.toUInt32 >>> ((1 : Int32) &&& 31).toUInt32).toInt32) &&& (3 : Int32))), .val (.ref rf), .val (.int (1 : Int32)), .val (.ref t0), .unset, .unset, .unset, .unset, .unset, .unset, .unset, .unset, .unset, .unset] [(.int ((p2.toUInt32 >>> ((8 : Int32) &&& 31).toUInt32).toInt32))]))
      refine ownVia (fun _ k => XS.sipush X150.here hx rfl (hb hby at_78) k) ?_
      show ownFin _ _ _ _ _ (T150.setTop (mkF m 81 #[.val (.int p1), .val (.int p2), .val (.int p3), .val (.long q1), .second, .val (.long q2), .second, .val (.long q3), .second, .val (.int (1 : Int32)), .val (.int (((p1.toUInt32 >>> ((1 : Int32) &&& 31).toUInt32).toInt32) &&& (3 : Int32))), .val (.ref rf), .val (.int (1 : Int32)), .val (.ref t0), .unset, .unset, .unset, .unset, .unset, .unset, .unset, .unset, .unset, .unset] [(.int (255 : Int32)), (.int ((p2.toUInt32 >>> ((8 : Int32) &&& 31).toUInt32).toInt32))]))
      refine ownVia (fun _ k => XS.iand X150.here hx rfl (hb hby at_81) rfl k) ?_
      show ownFin _ _ _ _ _ (T150.setTop (mkF m 82 #[.val (.int p1), .val (.int p2), .val (.int p3), .val (.long q1), .second, .val (.long q2), .second, .val (.long q3), .second, .val (.int (1 : Int32)), .val (.int (((p1.toUInt32 >>> ((1 : Int32) &&& 31).toUInt32).toInt32) &&& (3 : Int32))), .val (.ref rf), .val (.int (1 : Int32)), .val (.ref t0), .unset, .unset, .unset, .unset, .unset, .unset, .unset, .unset, .unset, .unset] [(.int (((p2.toUInt32 >>> ((8 : Int32) &&& 31).toUInt32).toInt32) &&& (255 : Int32)))]))
      refine ownVia (fun _ k => XS.i2c X150.here hx rfl (hb hby at_82) rfl k) ?_
      show ownFin _ _ _ _ _ (T150.setTop (mkF m 83 #[.val (.int p1), .val (.int p2), .val (.int p3), .val (.long q1), .second, .val (.long q2), .second, .val (.long q3), .second, .val (.int (1 : Int32)), .val (.int (((p1.toUInt32 >>> ((1 : Int32) &&& 31).toUInt32).toInt32) &&& (3 : Int32))), .val (.ref rf), .val (.int (1 : Int32)), .val (.ref t0), .unset, .unset, .unset, .unset, .unset, .unset, .unset, .unset, .unset, .unset] [(.int ((((p2.toUInt32 >>> ((8 : Int32) &&& 31).toUInt32).toInt32) &&& (255 : Int32)).toUInt32.toUInt16.toUInt32.toInt32))]))
      refine ownCallS X150 hx hZ hown (hw _ (List.mem_of_getElem? (i := 0) rfl)) (hw _ (List.mem_of_getElem? (i := 1) rfl)) (hw _ (List.mem_of_getElem? (i := 2) rfl)) (hw _ (List.mem_of_getElem? (i := 3) rfl)) (by decide) (rfl : T150.heap = T150.heap) (own_vof l Z a0 hw ((((p2.toUInt32 >>> ((8 : Int32) &&& 31).toUInt32).toInt32) &&& (255 : Int32)).toUInt32.toUInt16.toUInt32.toInt32) T150.heap n0 cs0 Z0 O S_c hcs (own_ch _).2) (by rw [hml]; rfl) [(.int ((((p2.toUInt32 >>> ((8 : Int32) &&& 31).toUInt32).toInt32) &&& (255 : Int32)).toUInt32.toUInt16.toUInt32.toInt32))] [] (lenOf own_pd10 rfl) rfl rfl 0 rfl (hb hby at_83) (by decide) (by decide) (by decide) (by decide) ?_
      intro v151 T151 L151 X151 hq151
      obtain ⟨t1, rfl, N151q, K151, sq151⟩ := hq151
      have Z0 := Nat.le_trans Z0 K151.1
      have hk := Nat.le_trans hk K151.1
      have O := O.keep K151 all0
      have N151 := Fr.app N150 N151q
      show ownFin _ _ _ _ _ (T151.setTop (mkF m 86 #[.val (.int p1), .val (.int p2), .val (.int p3), .val (.long q1), .second, .val (.long q2), .second, .val (.long q3), .second, .val (.int (1 : Int32)), .val (.int (((p1.toUInt32 >>> ((1 : Int32) &&& 31).toUInt32).toInt32) &&& (3 : Int32))), .val (.ref rf), .val (.int (1 : Int32)), .val (.ref t0), .unset, .unset, .unset, .unset, .unset, .unset, .unset, .unset, .unset, .unset] [(.ref t1)]))
      refine ownVia (fun _ k => XS.astore X151.here hx rfl (hb hby at_86) rfl rfl (l' := #[.val (.int p1), .val (.int p2), .val (.int p3), .val (.long q1), .second, .val (.long q2), .second, .val (.long q3), .second, .val (.int (1 : Int32)), .val (.int (((p1.toUInt32 >>> ((1 : Int32) &&& 31).toUInt32).toInt32) &&& (3 : Int32))), .val (.ref rf), .val (.int (1 : Int32)), .val (.ref t0), .val (.ref t1), .unset, .unset, .unset, .unset, .unset, .unset, .unset, .unset, .unset]) rfl k) ?_
      show ownFin _ _ _ _ _ (T151.setTop (mkF m 88 #[.val (.int p1), .val (.int p2), .val (.int p3), .val (.long q1), .second, .val (.long q2), .second, .val (.long q3), .second, .val (.int (1 : Int32)), .val (.int (((p1.toUInt32 >>> ((1 : Int32) &&& 31).toUInt32).toInt32) &&& (3 : Int32))), .val (.ref rf), .val (.int (1 : Int32)), .val (.ref t0), .val (.ref t1), .unset, .unset, .unset, .unset, .unset, .unset, .unset, .unset, .unset] []))
      refine ownVia (fun _ k => XS.iloadN X151.here hx rfl (hb hby at_88) rfl k) ?_
      show ownFin _ _ _ _ _ (T151.setTop (mkF m 89 #[.val (.int p1), .val (.int p2), .val (.int p3), .val (.long q1), .second, .val (.long q2), .second, .val (.long q3), .second, .val (.int (1 : Int32)), .val (.int (((p1.toUInt32 >>> ((1 : Int32) &&& 31).toUInt32).toInt32) &&& (3 : Int32))), .val (.ref rf), .val (.int (1 : Int32)), .val (.ref t0), .val (.ref t1), .unset, .unset, .unset, .unset, .unset, .unset, .unset, .unset, .unset] [(.int p2)]))
      refine ownCallS X151 hx hZ hown (hw _ (List.mem_of_getElem? (i := 26) rfl)) (hw _ (List.mem_of_getElem? (i := 27) rfl)) (hw _ (List.mem_of_getElem? (i := 28) rfl)) (hw _ (List.mem_of_getElem? (i := 29) rfl)) (by decide) (rfl : T151.heap = T151.heap) (own_std l Z a0 hw p2 T151.heap n0 Z0 (by obtain ⟨z, q⟩ := k0; exact ⟨z, q.ext O.2⟩) (by obtain ⟨z, q⟩ := k1; exact ⟨z, q.ext O.2⟩) (by obtain ⟨z, q⟩ := k2; exact ⟨z, q.ext O.2⟩) (by obtain ⟨z, q⟩ := k3; exact ⟨z, q.ext O.2⟩) (by obtain ⟨z, q⟩ := k4; exact ⟨z, q.ext O.2⟩) (by obtain ⟨z, q⟩ := k5; exact ⟨z, q.ext O.2⟩) (by obtain ⟨z, q⟩ := k6; exact ⟨z, q.ext O.2⟩)) (by rw [hml]; rfl) [(.int p2)] [] (lenOf own_pd11 rfl) rfl rfl 0 rfl (hb hby at_89) (by decide) (by decide) (by decide) (by decide) ?_
      intro v152 T152 L152 X152 hq152
      obtain ⟨sd, rfl, N152q, eq152⟩ := hq152
      have N152 := Fr.app N151 N152q
      have e152 : T152.heap = T151.heap := eq152
      show ownFin _ _ _ _ _ (T152.setTop (mkF m 92 #[.val (.int p1), .val (.int p2), .val (.int p3), .val (.long q1), .second, .val (.long q2), .second, .val (.long q3), .second, .val (.int (1 : Int32)), .val (.int (((p1.toUInt32 >>> ((1 : Int32) &&& 31).toUInt32).toInt32) &&& (3 : Int32))), .val (.ref rf), .val (.int (1 : Int32)), .val (.ref t0), .val (.ref t1), .unset, .unset, .unset, .unset, .unset, .unset, .unset, .unset, .unset] [(.ref sd)]))
      refine ownVia (fun _ k => XS.astore X152.here hx rfl (hb hby at_92) rfl rfl (l' := #[.val (.int p1), .val (.int p2), .val (.int p3), .val (.long q1), .second, .val (.long q2), .second, .val (.long q3), .second, .val (.int (1 : Int32)), .val (.int (((p1.toUInt32 >>> ((1 : Int32) &&& 31).toUInt32).toInt32) &&& (3 : Int32))), .val (.ref rf), .val (.int (1 : Int32)), .val (.ref t0), .val (.ref t1), .val (.ref sd), .unset, .unset, .unset, .unset, .unset, .unset, .unset, .unset]) rfl k) ?_
      show ownFin _ _ _ _ _ (T152.setTop (mkF m 94 #[.val (.int p1), .val (.int p2), .val (.int p3), .val (.long q1), .second, .val (.long q2), .second, .val (.long q3), .second, .val (.int (1 : Int32)), .val (.int (((p1.toUInt32 >>> ((1 : Int32) &&& 31).toUInt32).toInt32) &&& (3 : Int32))), .val (.ref rf), .val (.int (1 : Int32)), .val (.ref t0), .val (.ref t1), .val (.ref sd), .unset, .unset, .unset, .unset, .unset, .unset, .unset, .unset] []))
      refine ownVia (fun _ k => XS.lloadN X152.here hx rfl (hb hby at_94) rfl k) ?_
      show ownFin _ _ _ _ _ (T152.setTop (mkF m 95 #[.val (.int p1), .val (.int p2), .val (.int p3), .val (.long q1), .second, .val (.long q2), .second, .val (.long q3), .second, .val (.int (1 : Int32)), .val (.int (((p1.toUInt32 >>> ((1 : Int32) &&& 31).toUInt32).toInt32) &&& (3 : Int32))), .val (.ref rf), .val (.int (1 : Int32)), .val (.ref t0), .val (.ref t1), .val (.ref sd), .unset, .unset, .unset, .unset, .unset, .unset, .unset, .unset] [(.long q1)]))
      refine ownVia (fun _ k => X152.ldc2Long hx hown (mvT hZ (hw _ (List.mem_of_getElem? (i := 34) rfl))) (g := (mkF m 95 #[.val (.int p1), .val (.int p2), .val (.int p3), .val (.long q1), .second, .val (.long q2), .second, .val (.long q3), .second, .val (.int (1 : Int32)), .val (.int (((p1.toUInt32 >>> ((1 : Int32) &&& 31).toUInt32).toInt32) &&& (3 : Int32))), .val (.ref rf), .val (.int (1 : Int32)), .val (.ref t0), .val (.ref t1), .val (.ref sd), .unset, .unset, .unset, .unset, .unset, .unset, .unset, .unset] [(.long q1)])) rfl (hb hby at_95) _ k) ?_
      show ownFin _ _ _ _ _ (T152.setTop (mkF m 98 #[.val (.int p1), .val (.int p2), .val (.int p3), .val (.long q1), .second, .val (.long q2), .second, .val (.long q3), .second, .val (.int (1 : Int32)), .val (.int (((p1.toUInt32 >>> ((1 : Int32) &&& 31).toUInt32).toInt32) &&& (3 : Int32))), .val (.ref rf), .val (.int (1 : Int32)), .val (.ref t0), .val (.ref t1), .val (.ref sd), .unset, .unset, .unset, .unset, .unset, .unset, .unset, .unset] [(.long (2147483648 : Int64)), (.long q1)]))
      refine ownVia (fun _ k => XS.lrem X152.here hx rfl (hb hby at_98) rfl (by decide) k) ?_
      show ownFin _ _ _ _ _ (T152.setTop (mkF m 99 #[.val (.int p1), .val (.int p2), .val (.int p3), .val (.long q1), .second, .val (.long q2), .second, .val (.long q3), .second, .val (.int (1 : Int32)), .val (.int (((p1.toUInt32 >>> ((1 : Int32) &&& 31).toUInt32).toInt32) &&& (3 : Int32))), .val (.ref rf), .val (.int (1 : Int32)), .val (.ref t0), .val (.ref t1), .val (.ref sd), .unset, .unset, .unset, .unset, .unset, .unset, .unset, .unset] [(.long (q1 - (q1 / (2147483648 : Int64)) * (2147483648 : Int64)))]))
      refine ownVia (fun _ k => XS.lstore X152.here hx rfl (hb hby at_99) rfl (l' := #[.val (.int p1), .val (.int p2), .val (.int p3), .val (.long q1), .second, .val (.long q2), .second, .val (.long q3), .second, .val (.int (1 : Int32)), .val (.int (((p1.toUInt32 >>> ((1 : Int32) &&& 31).toUInt32).toInt32) &&& (3 : Int32))), .val (.ref rf), .val (.int (1 : Int32)), .val (.ref t0), .val (.ref t1), .val (.ref sd), .val (.long (q1 - (q1 / (2147483648 : Int64)) * (2147483648 : Int64))), .second, .unset, .unset, .unset, .unset, .unset, .unset]) rfl k) ?_
      show ownFin _ _ _ _ _ (T152.setTop (mkF m 101 #[.val (.int p1), .val (.int p2), .val (.int p3), .val (.long q1), .second, .val (.long q2), .second, .val (.long q3), .second, .val (.int (1 : Int32)), .val (.int (((p1.toUInt32 >>> ((1 : Int32) &&& 31).toUInt32).toInt32) &&& (3 : Int32))), .val (.ref rf), .val (.int (1 : Int32)), .val (.ref t0), .val (.ref t1), .val (.ref sd), .val (.long (q1 - (q1 / (2147483648 : Int64)) * (2147483648 : Int64))), .second, .unset, .unset, .unset, .unset, .unset, .unset] []))
      refine ownVia (fun _ k => XS.lload X152.here hx rfl (hb hby at_101) rfl k) ?_
      show ownFin _ _ _ _ _ (T152.setTop (mkF m 103 #[.val (.int p1), .val (.int p2), .val (.int p3), .val (.long q1), .second, .val (.long q2), .second, .val (.long q3), .second, .val (.int (1 : Int32)), .val (.int (((p1.toUInt32 >>> ((1 : Int32) &&& 31).toUInt32).toInt32) &&& (3 : Int32))), .val (.ref rf), .val (.int (1 : Int32)), .val (.ref t0), .val (.ref t1), .val (.ref sd), .val (.long (q1 - (q1 / (2147483648 : Int64)) * (2147483648 : Int64))), .second, .unset, .unset, .unset, .unset, .unset, .unset] [(.long q2)]))
      refine ownVia (fun _ k => X152.ldc2Long hx hown (mvT hZ (hw _ (List.mem_of_getElem? (i := 34) rfl))) (g := (mkF m 103 #[.val (.int p1), .val (.int p2), .val (.int p3), .val (.long q1), .second, .val (.long q2), .second, .val (.long q3), .second, .val (.int (1 : Int32)), .val (.int (((p1.toUInt32 >>> ((1 : Int32) &&& 31).toUInt32).toInt32) &&& (3 : Int32))), .val (.ref rf), .val (.int (1 : Int32)), .val (.ref t0), .val (.ref t1), .val (.ref sd), .val (.long (q1 - (q1 / (2147483648 : Int64)) * (2147483648 : Int64))), .second, .unset, .unset, .unset, .unset, .unset, .unset] [(.long q2)])) rfl (hb hby at_103) _ k) ?_
      show ownFin _ _ _ _ _ (T152.setTop (mkF m 106 #[.val (.int p1), .val (.int p2), .val (.int p3), .val (.long q1), .second, .val (.long q2), .second, .val (.long q3), .second, .val (.int (1 : Int32)), .val (.int (((p1.toUInt32 >>> ((1 : Int32) &&& 31).toUInt32).toInt32) &&& (3 : Int32))), .val (.ref rf), .val (.int (1 : Int32)), .val (.ref t0), .val (.ref t1), .val (.ref sd), .val (.long (q1 - (q1 / (2147483648 : Int64)) * (2147483648 : Int64))), .second, .unset, .unset, .unset, .unset, .unset, .unset] [(.long (2147483648 : Int64)), (.long q2)]))
      refine ownVia (fun _ k => XS.lrem X152.here hx rfl (hb hby at_106) rfl (by decide) k) ?_
      show ownFin _ _ _ _ _ (T152.setTop (mkF m 107 #[.val (.int p1), .val (.int p2), .val (.int p3), .val (.long q1), .second, .val (.long q2), .second, .val (.long q3), .second, .val (.int (1 : Int32)), .val (.int (((p1.toUInt32 >>> ((1 : Int32) &&& 31).toUInt32).toInt32) &&& (3 : Int32))), .val (.ref rf), .val (.int (1 : Int32)), .val (.ref t0), .val (.ref t1), .val (.ref sd), .val (.long (q1 - (q1 / (2147483648 : Int64)) * (2147483648 : Int64))), .second, .unset, .unset, .unset, .unset, .unset, .unset] [(.long (q2 - (q2 / (2147483648 : Int64)) * (2147483648 : Int64)))]))
      refine ownVia (fun _ k => XS.lstore X152.here hx rfl (hb hby at_107) rfl (l' := #[.val (.int p1), .val (.int p2), .val (.int p3), .val (.long q1), .second, .val (.long q2), .second, .val (.long q3), .second, .val (.int (1 : Int32)), .val (.int (((p1.toUInt32 >>> ((1 : Int32) &&& 31).toUInt32).toInt32) &&& (3 : Int32))), .val (.ref rf), .val (.int (1 : Int32)), .val (.ref t0), .val (.ref t1), .val (.ref sd), .val (.long (q1 - (q1 / (2147483648 : Int64)) * (2147483648 : Int64))), .second, .val (.long (q2 - (q2 / (2147483648 : Int64)) * (2147483648 : Int64))), .second, .unset, .unset, .unset, .unset]) rfl k) ?_
      show ownFin _ _ _ _ _ (T152.setTop (mkF m 109 #[.val (.int p1), .val (.int p2), .val (.int p3), .val (.long q1), .second, .val (.long q2), .second, .val (.long q3), .second, .val (.int (1 : Int32)), .val (.int (((p1.toUInt32 >>> ((1 : Int32) &&& 31).toUInt32).toInt32) &&& (3 : Int32))), .val (.ref rf), .val (.int (1 : Int32)), .val (.ref t0), .val (.ref t1), .val (.ref sd), .val (.long (q1 - (q1 / (2147483648 : Int64)) * (2147483648 : Int64))), .second, .val (.long (q2 - (q2 / (2147483648 : Int64)) * (2147483648 : Int64))), .second, .unset, .unset, .unset, .unset] []))
      refine ownVia (fun _ k => XS.lload X152.here hx rfl (hb hby at_109) rfl k) ?_
      show ownFin _ _ _ _ _ (T152.setTop (mkF m 111 #[.val (.int p1), .val (.int p2), .val (.int p3), .val (.long q1), .second, .val (.long q2), .second, .val (.long q3), .second, .val (.int (1 : Int32)), .val (.int (((p1.toUInt32 >>> ((1 : Int32) &&& 31).toUInt32).toInt32) &&& (3 : Int32))), .val (.ref rf), .val (.int (1 : Int32)), .val (.ref t0), .val (.ref t1), .val (.ref sd), .val (.long (q1 - (q1 / (2147483648 : Int64)) * (2147483648 : Int64))), .second, .val (.long (q2 - (q2 / (2147483648 : Int64)) * (2147483648 : Int64))), .second, .unset, .unset, .unset, .unset] [(.long q3)]))
      refine ownVia (fun _ k => X152.ldc2Long hx hown (mvT hZ (hw _ (List.mem_of_getElem? (i := 34) rfl))) (g := (mkF m 111 #[.val (.int p1), .val (.int p2), .val (.int p3), .val (.long q1), .second, .val (.long q2), .second, .val (.long q3), .second, .val (.int (1 : Int32)), .val (.int (((p1.toUInt32 >>> ((1 : Int32) &&& 31).toUInt32).toInt32) &&& (3 : Int32))), .val (.ref rf), .val (.int (1 : Int32)), .val (.ref t0), .val (.ref t1), .val (.ref sd), .val (.long (q1 - (q1 / (2147483648 : Int64)) * (2147483648 : Int64))), .second, .val (.long (q2 - (q2 / (2147483648 : Int64)) * (2147483648 : Int64))), .second, .unset, .unset, .unset, .unset] [(.long q3)])) rfl (hb hby at_111) _ k) ?_
      show ownFin _ _ _ _ _ (T152.setTop (mkF m 114 #[.val (.int p1), .val (.int p2), .val (.int p3), .val (.long q1), .second, .val (.long q2), .second, .val (.long q3), .second, .val (.int (1 : Int32)), .val (.int (((p1.toUInt32 >>> ((1 : Int32) &&& 31).toUInt32).toInt32) &&& (3 : Int32))), .val (.ref rf), .val (.int (1 : Int32)), .val (.ref t0), .val (.ref t1), .val (.ref sd), .val (.long (q1 - (q1 / (2147483648 : Int64)) * (2147483648 : Int64))), .second, .val (.long (q2 - (q2 / (2147483648 : Int64)) * (2147483648 : Int64))), .second, .unset, .unset, .unset, .unset] [(.long (2147483648 : Int64)), (.long q3)]))
      refine ownVia (fun _ k => XS.lrem X152.here hx rfl (hb hby at_114) rfl (by decide) k) ?_
      show ownFin _ _ _ _ _ (T152.setTop (mkF m 115 #[.val (.int p1), .val (.int p2), .val (.int p3), .val (.long q1), .second, .val (.long q2), .second, .val (.long q3), .second, .val (.int (1 : Int32)), .val (.int (((p1.toUInt32 >>> ((1 : Int32) &&& 31).toUInt32).toInt32) &&& (3 : Int32))), .val (.ref rf), .val (.int (1 : Int32)), .val (.ref t0), .val (.ref t1), .val (.ref sd), .val (.long (q1 - (q1 / (2147483648 : Int64)) * (2147483648 : Int64))), .second, .val (.long (q2 - (q2 / (2147483648 : Int64)) * (2147483648 : Int64))), .second, .unset, .unset, .unset, .unset] [(.long (q3 - (q3 / (2147483648 : Int64)) * (2147483648 : Int64)))]))
      refine ownVia (fun _ k => XS.lstore X152.here hx rfl (hb hby at_115) rfl (l' := #[.val (.int p1), .val (.int p2), .val (.int p3), .val (.long q1), .second, .val (.long q2), .second, .val (.long q3), .second, .val (.int (1 : Int32)), .val (.int (((p1.toUInt32 >>> ((1 : Int32) &&& 31).toUInt32).toInt32) &&& (3 : Int32))), .val (.ref rf), .val (.int (1 : Int32)), .val (.ref t0), .val (.ref t1), .val (.ref sd), .val (.long (q1 - (q1 / (2147483648 : Int64)) * (2147483648 : Int64))), .second, .val (.long (q2 - (q2 / (2147483648 : Int64)) * (2147483648 : Int64))), .second, .val (.long (q3 - (q3 / (2147483648 : Int64)) * (2147483648 : Int64))), .second, .unset, .unset]) rfl k) ?_
      show ownFin _ _ _ _ _ (T152.setTop (mkF m 117 #[.val (.int p1), .val (.int p2), .val (.int p3), .val (.long q1), .second, .val (.long q2), .second, .val (.long q3), .second, .val (.int (1 : Int32)), .val (.int (((p1.toUInt32 >>> ((1 : Int32) &&& 31).toUInt32).toInt32) &&& (3 : Int32))), .val (.ref rf), .val (.int (1 : Int32)), .val (.ref t0), .val (.ref t1), .val (.ref sd), .val (.long (q1 - (q1 / (2147483648 : Int64)) * (2147483648 : Int64))), .second, .val (.long (q2 - (q2 / (2147483648 : Int64)) * (2147483648 : Int64))), .second, .val (.long (q3 - (q3 / (2147483648 : Int64)) * (2147483648 : Int64))), .second, .unset, .unset] []))
      have hq1 := own_rem q1
      generalize h_y1 : (q1 - (q1 / (2147483648 : Int64)) * (2147483648 : Int64)) = y1
      show ownFin _ _ _ _ _ (T152.setTop (mkF m 117 #[.val (.int p1), .val (.int p2), .val (.int p3), .val (.long q1), .second, .val (.long q2), .second, .val (.long q3), .second, .val (.int (1 : Int32)), .val (.int (((p1.toUInt32 >>> ((1 : Int32) &&& 31).toUInt32).toInt32) &&& (3 : Int32))), .val (.ref rf), .val (.int (1 : Int32)), .val (.ref t0), .val (.ref t1), .val (.ref sd), .val (.long y1), .second, .val (.long (q2 - (q2 / (2147483648 : Int64)) * (2147483648 : Int64))), .second, .val (.long (q3 - (q3 / (2147483648 : Int64)) * (2147483648 : Int64))), .second, .unset, .unset] []))
      rw [h_y1] at hq1
      have hq2 := own_rem q2
      generalize h_y2 : (q2 - (q2 / (2147483648 : Int64)) * (2147483648 : Int64)) = y2
      show ownFin _ _ _ _ _ (T152.setTop (mkF m 117 #[.val (.int p1), .val (.int p2), .val (.int p3), .val (.long q1), .second, .val (.long q2), .second, .val (.long q3), .second, .val (.int (1 : Int32)), .val (.int (((p1.toUInt32 >>> ((1 : Int32) &&& 31).toUInt32).toInt32) &&& (3 : Int32))), .val (.ref rf), .val (.int (1 : Int32)), .val (.ref t0), .val (.ref t1), .val (.ref sd), .val (.long y1), .second, .val (.long y2), .second, .val (.long (q3 - (q3 / (2147483648 : Int64)) * (2147483648 : Int64))), .second, .unset, .unset] []))
      rw [h_y2] at hq2
      have hq3 := own_rem q3
      generalize h_y3 : (q3 - (q3 / (2147483648 : Int64)) * (2147483648 : Int64)) = y3
      show ownFin _ _ _ _ _ (T152.setTop (mkF m 117 #[.val (.int p1), .val (.int p2), .val (.int p3), .val (.long q1), .second, .val (.long q2), .second, .val (.long q3), .second, .val (.int (1 : Int32)), .val (.int (((p1.toUInt32 >>> ((1 : Int32) &&& 31).toUInt32).toInt32) &&& (3 : Int32))), .val (.ref rf), .val (.int (1 : Int32)), .val (.ref t0), .val (.ref t1), .val (.ref sd), .val (.long y1), .second, .val (.long y2), .second, .val (.long y3), .second, .unset, .unset] []))
      rw [h_y3] at hq3
      obtain ⟨T153, h153, X153, e153, E153, A153, D153, -, st153⟩ := newO X152 hx hZ hown (hw _ (List.mem_of_getElem? (i := 35) rfl)) (hw _ (List.mem_of_getElem? (i := 36) rfl)) (hw _ (List.mem_of_getElem? (i := 37) rfl)) e152 (g := (mkF m 117 #[.val (.int p1), .val (.int p2), .val (.int p3), .val (.long q1), .second, .val (.long q2), .second, .val (.long q3), .second, .val (.int (1 : Int32)), .val (.int (((p1.toUInt32 >>> ((1 : Int32) &&& 31).toUInt32).toInt32) &&& (3 : Int32))), .val (.ref rf), .val (.int (1 : Int32)), .val (.ref t0), .val (.ref t1), .val (.ref sd), .val (.long y1), .second, .val (.long y2), .second, .val (.long y3), .second, .unset, .unset] [])) rfl (hb hby at_117) (by decide) (by decide)
      obtain ⟨b1, g153⟩ : ∃ z, z = T151.heap.size := ⟨_, rfl⟩
      rw [← g153] at A153 D153 st153
      have ge_b1 : n0 ≤ b1 := Nat.le_trans Z0 (Nat.le_of_eq g153.symm)
      have O := O.ext E153
      have Z0 := own_sz Z0 E153
      have hk := own_sz hk E153
      have E_b1 := A153
      have F_b1_outTradeNo : Fld Z h153 b1 "com/example/tillbridge/tillbridge/channel/Bill$Line" "outTradeNo" "Ljava/lang/String;" .null := D153 (Or.inr (hw _ (List.mem_of_getElem? (i := 54) rfl))) (ty := (.object "java/lang/String")) (by decide)
      have F_b1_outRefundNo : Fld Z h153 b1 "com/example/tillbridge/tillbridge/channel/Bill$Line" "outRefundNo" "Ljava/lang/String;" .null := D153 (Or.inr (hw _ (List.mem_of_getElem? (i := 56) rfl))) (ty := (.object "java/lang/String")) (by decide)
      have F_b1_state : Fld Z h153 b1 "com/example/tillbridge/tillbridge/channel/Bill$Line" "state" "Ljava/lang/String;" .null := D153 (Or.inr (hw _ (List.mem_of_getElem? (i := 58) rfl))) (ty := (.object "java/lang/String")) (by decide)
      have F_b1_standing : Fld Z h153 b1 "com/example/tillbridge/tillbridge/channel/Bill$Line" "standing" "Lcom/example/tillbridge/tillbridge/channel/Bill$Standing;" .null := D153 (Or.inr (hw _ (List.mem_of_getElem? (i := 60) rfl))) (ty := (.object "com/example/tillbridge/tillbridge/channel/Bill$Standing")) (by decide)
      have F_b1_amount : Fld Z h153 b1 "com/example/tillbridge/tillbridge/channel/Bill$Line" "amount" "J" (.long (0 : Int64)) := D153 (Or.inr (hw _ (List.mem_of_getElem? (i := 62) rfl))) (ty := .long) (by decide)
      have F_b1_couponRefund : Fld Z h153 b1 "com/example/tillbridge/tillbridge/channel/Bill$Line" "couponRefund" "J" (.long (0 : Int64)) := D153 (Or.inr (hw _ (List.mem_of_getElem? (i := 64) rfl))) (ty := .long) (by decide)
      have F_b1_fee : Fld Z h153 b1 "com/example/tillbridge/tillbridge/channel/Bill$Line" "fee" "J" (.long (0 : Int64)) := D153 (Or.inr (hw _ (List.mem_of_getElem? (i := 66) rfl))) (ty := .long) (by decide)
      refine ownVia st153 ?_
      show ownFin _ _ _ _ _ (T153.setTop (mkF m 120 #[.val (.int p1), .val (.int p2), .val (.int p3), .val (.long q1), .second, .val (.long q2), .second, .val (.long q3), .second, .val (.int (1 : Int32)), .val (.int (((p1.toUInt32 >>> ((1 : Int32) &&& 31).toUInt32).toInt32) &&& (3 : Int32))), .val (.ref rf), .val (.int (1 : Int32)), .val (.ref t0), .val (.ref t1), .val (.ref sd), .val (.long y1), .second, .val (.long y2), .second, .val (.long y3), .second, .unset, .unset] [(.ref b1)]))
      refine ownVia (fun _ k => XS.dup X153.here hx rfl (hb hby at_120) rfl rfl k) ?_
      show ownFin _ _ _ _ _ (T153.setTop (mkF m 121 #[.val (.int p1), .val (.int p2), .val (.int p3), .val (.long q1), .second, .val (.long q2), .second, .val (.long q3), .second, .val (.int (1 : Int32)), .val (.int (((p1.toUInt32 >>> ((1 : Int32) &&& 31).toUInt32).toInt32) &&& (3 : Int32))), .val (.ref rf), .val (.int (1 : Int32)), .val (.ref t0), .val (.ref t1), .val (.ref sd), .val (.long y1), .second, .val (.long y2), .second, .val (.long y3), .second, .unset, .unset] [(.ref b1), (.ref b1)]))
      refine ownVia (fun _ k => XS.aload X153.here hx rfl (hb hby at_121) rfl rfl k) ?_
      show ownFin _ _ _ _ _ (T153.setTop (mkF m 123 #[.val (.int p1), .val (.int p2), .val (.int p3), .val (.long q1), .second, .val (.long q2), .second, .val (.long q3), .second, .val (.int (1 : Int32)), .val (.int (((p1.toUInt32 >>> ((1 : Int32) &&& 31).toUInt32).toInt32) &&& (3 : Int32))), .val (.ref rf), .val (.int (1 : Int32)), .val (.ref t0), .val (.ref t1), .val (.ref sd), .val (.long y1), .second, .val (.long y2), .second, .val (.long y3), .second, .unset, .unset] [(.ref t1), (.ref b1), (.ref b1)]))
      refine ownVia (fun _ k => XS.aload X153.here hx rfl (hb hby at_123) rfl rfl k) ?_
      show ownFin _ _ _ _ _ (T153.setTop (mkF m 125 #[.val (.int p1), .val (.int p2), .val (.int p3), .val (.long q1), .second, .val (.long q2), .second, .val (.long q3), .second, .val (.int (1 : Int32)), .val (.int (((p1.toUInt32 >>> ((1 : Int32) &&& 31).toUInt32).toInt32) &&& (3 : Int32))), .val (.ref rf), .val (.int (1 : Int32)), .val (.ref t0), .val (.ref t1), .val (.ref sd), .val (.long y1), .second, .val (.long y2), .second, .val (.long y3), .second, .unset, .unset] [(.ref rf), (.ref t1), (.ref b1), (.ref b1)]))
      refine ownVia (fun _ k => XS.aload X153.here hx rfl (hb hby at_125) rfl rfl k) ?_
      show ownFin _ _ _ _ _ (T153.setTop (mkF m 127 #[.val (.int p1), .val (.int p2), .val (.int p3), .val (.long q1), .second, .val (.long q2), .second, .val (.long q3), .second, .val (.int (1 : Int32)), .val (.int (((p1.toUInt32 >>> ((1 : Int32) &&& 31).toUInt32).toInt32) &&& (3 : Int32))), .val (.ref rf), .val (.int (1 : Int32)), .val (.ref t0), .val (.ref t1), .val (.ref sd), .val (.long y1), .second, .val (.long y2), .second, .val (.long y3), .second, .unset, .unset] [(.ref t0), (.ref rf), (.ref t1), (.ref b1), (.ref b1)]))
      refine ownVia (fun _ k => XS.aload X153.here hx rfl (hb hby at_127) rfl rfl k) ?_
      show ownFin _ _ _ _ _ (T153.setTop (mkF m 129 #[.val (.int p1), .val (.int p2), .val (.int p3), .val (.long q1), .second, .val (.long q2), .second, .val (.long q3), .second, .val (.int (1 : Int32)), .val (.int (((p1.toUInt32 >>> ((1 : Int32) &&& 31).toUInt32).toInt32) &&& (3 : Int32))), .val (.ref rf), .val (.int (1 : Int32)), .val (.ref t0), .val (.ref t1), .val (.ref sd), .val (.long y1), .second, .val (.long y2), .second, .val (.long y3), .second, .unset, .unset] [(.ref sd), (.ref t0), (.ref rf), (.ref t1), (.ref b1), (.ref b1)]))
      refine ownVia (fun _ k => XS.lload X153.here hx rfl (hb hby at_129) rfl k) ?_
      show ownFin _ _ _ _ _ (T153.setTop (mkF m 131 #[.val (.int p1), .val (.int p2), .val (.int p3), .val (.long q1), .second, .val (.long q2), .second, .val (.long q3), .second, .val (.int (1 : Int32)), .val (.int (((p1.toUInt32 >>> ((1 : Int32) &&& 31).toUInt32).toInt32) &&& (3 : Int32))), .val (.ref rf), .val (.int (1 : Int32)), .val (.ref t0), .val (.ref t1), .val (.ref sd), .val (.long y1), .second, .val (.long y2), .second, .val (.long y3), .second, .unset, .unset] [(.long y1), (.ref sd), (.ref t0), (.ref rf), (.ref t1), (.ref b1), (.ref b1)]))
      refine ownVia (fun _ k => XS.lload X153.here hx rfl (hb hby at_131) rfl k) ?_
      show ownFin _ _ _ _ _ (T153.setTop (mkF m 133 #[.val (.int p1), .val (.int p2), .val (.int p3), .val (.long q1), .second, .val (.long q2), .second, .val (.long q3), .second, .val (.int (1 : Int32)), .val (.int (((p1.toUInt32 >>> ((1 : Int32) &&& 31).toUInt32).toInt32) &&& (3 : Int32))), .val (.ref rf), .val (.int (1 : Int32)), .val (.ref t0), .val (.ref t1), .val (.ref sd), .val (.long y1), .second, .val (.long y2), .second, .val (.long y3), .second, .unset, .unset] [(.long y2), (.long y1), (.ref sd), (.ref t0), (.ref rf), (.ref t1), (.ref b1), (.ref b1)]))
      refine ownVia (fun _ k => XS.lload X153.here hx rfl (hb hby at_133) rfl k) ?_
      show ownFin _ _ _ _ _ (T153.setTop (mkF m 135 #[.val (.int p1), .val (.int p2), .val (.int p3), .val (.long q1), .second, .val (.long q2), .second, .val (.long q3), .second, .val (.int (1 : Int32)), .val (.int (((p1.toUInt32 >>> ((1 : Int32) &&& 31).toUInt32).toInt32) &&& (3 : Int32))), .val (.ref rf), .val (.int (1 : Int32)), .val (.ref t0), .val (.ref t1), .val (.ref sd), .val (.long y1), .second, .val (.long y2), .second, .val (.long y3), .second, .unset, .unset] [(.long y3), (.long y2), (.long y1), (.ref sd), (.ref t0), (.ref rf), (.ref t1), (.ref b1), (.ref b1)]))
      refine ownCallN X153 hx hZ hown rfl (hw _ (List.mem_of_getElem? (i := 38) rfl)) (hw _ (List.mem_of_getElem? (i := 39) rfl)) (hw _ (List.mem_of_getElem? (i := 37) rfl)) (hw _ (List.mem_of_getElem? (i := 40) rfl)) (by decide) e153 (own_line_rr l Z a0 hw b1 t1 rf t0 sd y1 y2 y3 h153 n0 Z0 F_b1_outTradeNo F_b1_outRefundNo F_b1_state F_b1_standing F_b1_amount F_b1_couponRefund F_b1_fee E_b1 ge_b1 hq1 hq2 hq3) (by rw [hml]; rfl) b1 [(.ref t1), (.ref rf), (.ref t0), (.ref sd), (.long y1), (.long y2), (.long y3)] [(.ref b1)] (lenOf own_pd12 rfl) rfl rfl 1 rfl (hb hby at_135) (by decide) (by decide) (by decide) (by decide) ?_
      intro v154 T154 L154 X154 hq154
      obtain ⟨rfl, N154q, K154, F_b1⟩ := hq154
      have E_b1 := E_b1.keep K154
      have Z0 := Nat.le_trans Z0 K154.1
      have hk := Nat.le_trans hk K154.1
      have O := O.keep K154 (allS ge_b1 all0)
      have N154 := Fr.app N152 N154q
      show ownFin _ _ _ _ _ (T154.setTop (mkF m 138 #[.val (.int p1), .val (.int p2), .val (.int p3), .val (.long q1), .second, .val (.long q2), .second, .val (.long q3), .second, .val (.int (1 : Int32)), .val (.int (((p1.toUInt32 >>> ((1 : Int32) &&& 31).toUInt32).toInt32) &&& (3 : Int32))), .val (.ref rf), .val (.int (1 : Int32)), .val (.ref t0), .val (.ref t1), .val (.ref sd), .val (.long y1), .second, .val (.long y2), .second, .val (.long y3), .second, .unset, .unset] [(.ref b1)]))
      refine ownVia (fun _ k => XS.astore X154.here hx rfl (hb hby at_138) rfl rfl (l' := #[.val (.int p1), .val (.int p2), .val (.int p3), .val (.long q1), .second, .val (.long q2), .second, .val (.long q3), .second, .val (.int (1 : Int32)), .val (.int (((p1.toUInt32 >>> ((1 : Int32) &&& 31).toUInt32).toInt32) &&& (3 : Int32))), .val (.ref rf), .val (.int (1 : Int32)), .val (.ref t0), .val (.ref t1), .val (.ref sd), .val (.long y1), .second, .val (.long y2), .second, .val (.long y3), .second, .val (.ref b1), .unset]) rfl k) ?_
      show ownFin _ _ _ _ _ (T154.setTop (mkF m 140 #[.val (.int p1), .val (.int p2), .val (.int p3), .val (.long q1), .second, .val (.long q2), .second, .val (.long q3), .second, .val (.int (1 : Int32)), .val (.int (((p1.toUInt32 >>> ((1 : Int32) &&& 31).toUInt32).toInt32) &&& (3 : Int32))), .val (.ref rf), .val (.int (1 : Int32)), .val (.ref t0), .val (.ref t1), .val (.ref sd), .val (.long y1), .second, .val (.long y2), .second, .val (.long y3), .second, .val (.ref b1), .unset] []))
      refine ownVia (fun _ k => XS.iload X154.here hx rfl (hb hby at_140) rfl k) ?_
      show ownFin _ _ _ _ _ (T154.setTop (mkF m 142 #[.val (.int p1), .val (.int p2), .val (.int p3), .val (.long q1), .second, .val (.long q2), .second, .val (.long q3), .second, .val (.int (1 : Int32)), .val (.int (((p1.toUInt32 >>> ((1 : Int32) &&& 31).toUInt32).toInt32) &&& (3 : Int32))), .val (.ref rf), .val (.int (1 : Int32)), .val (.ref t0), .val (.ref t1), .val (.ref sd), .val (.long y1), .second, .val (.long y2), .second, .val (.long y3), .second, .val (.ref b1), .unset] [(.int (1 : Int32))]))
      refine ownVia (fun _ k => XS.istore X154.here hx rfl (hb hby at_142) rfl (l' := #[.val (.int p1), .val (.int p2), .val (.int p3), .val (.long q1), .second, .val (.long q2), .second, .val (.long q3), .second, .val (.int (1 : Int32)), .val (.int (((p1.toUInt32 >>> ((1 : Int32) &&& 31).toUInt32).toInt32) &&& (3 : Int32))), .val (.ref rf), .val (.int (1 : Int32)), .val (.ref t0), .val (.ref t1), .val (.ref sd), .val (.long y1), .second, .val (.long y2), .second, .val (.long y3), .second, .val (.ref b1), .val (.int (1 : Int32))]) rfl k) ?_
      show ownFin _ _ _ _ _ (T154.setTop (mkF m 144 #[.val (.int p1), .val (.int p2), .val (.int p3), .val (.long q1), .second, .val (.long q2), .second, .val (.long q3), .second, .val (.int (1 : Int32)), .val (.int (((p1.toUInt32 >>> ((1 : Int32) &&& 31).toUInt32).toInt32) &&& (3 : Int32))), .val (.ref rf), .val (.int (1 : Int32)), .val (.ref t0), .val (.ref t1), .val (.ref sd), .val (.long y1), .second, .val (.long y2), .second, .val (.long y3), .second, .val (.ref b1), .val (.int (1 : Int32))] []))
      refine ownVia (fun _ k => XS.aload X154.here hx rfl (hb hby at_144) rfl rfl k) ?_
      show ownFin _ _ _ _ _ (T154.setTop (mkF m 146 #[.val (.int p1), .val (.int p2), .val (.int p3), .val (.long q1), .second, .val (.long q2), .second, .val (.long q3), .second, .val (.int (1 : Int32)), .val (.int (((p1.toUInt32 >>> ((1 : Int32) &&& 31).toUInt32).toInt32) &&& (3 : Int32))), .val (.ref rf), .val (.int (1 : Int32)), .val (.ref t0), .val (.ref t1), .val (.ref sd), .val (.long y1), .second, .val (.long y2), .second, .val (.long y3), .second, .val (.ref b1), .val (.int (1 : Int32))] [(.ref b1)]))
      refine ownCallV X154 hx hZ hown (hw _ (List.mem_of_getElem? (i := 67) rfl)) (hw _ (List.mem_of_getElem? (i := 68) rfl)) (hw _ (List.mem_of_getElem? (i := 70) rfl)) (hw _ (List.mem_of_getElem? (i := 70) rfl)) (hw _ (List.mem_of_getElem? (i := 69) rfl)) (hw _ (List.mem_of_getElem? (i := 37) rfl)) (hw _ (List.mem_of_getElem? (i := 71) rfl)) (by decide) (rfl : T154.heap = T154.heap) E_b1 (own_isr_r l Z a0 hw b1 T154.heap n0 rf Z0 F_b1) (by rw [hml]; rfl) [] [] (lenOf own_pd13 rfl) rfl rfl 0 rfl (hb hby at_146) (by decide) (by decide) (by decide) (by decide) ?_
      intro v155 T155 L155 X155 hq155
      obtain ⟨rfl, N155q, eq155⟩ := hq155
      have N155 := Fr.app N154 N155q
      have e155 : T155.heap = T154.heap := eq155
      show ownFin _ _ _ _ _ (T155.setTop (mkF m 149 #[.val (.int p1), .val (.int p2), .val (.int p3), .val (.long q1), .second, .val (.long q2), .second, .val (.long q3), .second, .val (.int (1 : Int32)), .val (.int (((p1.toUInt32 >>> ((1 : Int32) &&& 31).toUInt32).toInt32) &&& (3 : Int32))), .val (.ref rf), .val (.int (1 : Int32)), .val (.ref t0), .val (.ref t1), .val (.ref sd), .val (.long y1), .second, .val (.long y2), .second, .val (.long y3), .second, .val (.ref b1), .val (.int (1 : Int32))] [(.int (1 : Int32))]))
      refine ownVia (fun _ k => XS.iload X155.here hx rfl (hb hby at_149) rfl k) ?_
      show ownFin _ _ _ _ _ (T155.setTop (mkF m 151 #[.val (.int p1), .val (.int p2), .val (.int p3), .val (.long q1), .second, .val (.long q2), .second, .val (.long q3), .second, .val (.int (1 : Int32)), .val (.int (((p1.toUInt32 >>> ((1 : Int32) &&& 31).toUInt32).toInt32) &&& (3 : Int32))), .val (.ref rf), .val (.int (1 : Int32)), .val (.ref t0), .val (.ref t1), .val (.ref sd), .val (.long y1), .second, .val (.long y2), .second, .val (.long y3), .second, .val (.ref b1), .val (.int (1 : Int32))] [(.int (1 : Int32)), (.int (1 : Int32))]))
      refine ownVia (fun _ k => XS.icmpNo X155.here hx rfl (hb hby at_151) rfl (teq rfl).2 k) ?_
      show ownFin _ _ _ _ _ (T155.setTop (mkF m 154 #[.val (.int p1), .val (.int p2), .val (.int p3), .val (.long q1), .second, .val (.long q2), .second, .val (.long q3), .second, .val (.int (1 : Int32)), .val (.int (((p1.toUInt32 >>> ((1 : Int32) &&& 31).toUInt32).toInt32) &&& (3 : Int32))), .val (.ref rf), .val (.int (1 : Int32)), .val (.ref t0), .val (.ref t1), .val (.ref sd), .val (.long y1), .second, .val (.long y2), .second, .val (.long y3), .second, .val (.ref b1), .val (.int (1 : Int32))] []))
      refine ownVia (fun _ k => XS.iconst X155.here hx rfl (hb hby at_154) k) ?_
      show ownFin _ _ _ _ _ (T155.setTop (mkF m 155 #[.val (.int p1), .val (.int p2), .val (.int p3), .val (.long q1), .second, .val (.long q2), .second, .val (.long q3), .second, .val (.int (1 : Int32)), .val (.int (((p1.toUInt32 >>> ((1 : Int32) &&& 31).toUInt32).toInt32) &&& (3 : Int32))), .val (.ref rf), .val (.int (1 : Int32)), .val (.ref t0), .val (.ref t1), .val (.ref sd), .val (.long y1), .second, .val (.long y2), .second, .val (.long y3), .second, .val (.ref b1), .val (.int (1 : Int32))] [(.int (1 : Int32))]))
      refine ownVia (fun _ k => XS.goto X155.here hx rfl (pc0 := 155) (pc' := 159) rfl (hb hby at_155) (by decide) (by decide) k) ?_
      show ownFin _ _ _ _ _ (T155.setTop (mkF m 159 #[.val (.int p1), .val (.int p2), .val (.int p3), .val (.long q1), .second, .val (.long q2), .second, .val (.long q3), .second, .val (.int (1 : Int32)), .val (.int (((p1.toUInt32 >>> ((1 : Int32) &&& 31).toUInt32).toInt32) &&& (3 : Int32))), .val (.ref rf), .val (.int (1 : Int32)), .val (.ref t0), .val (.ref t1), .val (.ref sd), .val (.long y1), .second, .val (.long y2), .second, .val (.long y3), .second, .val (.ref b1), .val (.int (1 : Int32))] [(.int (1 : Int32))]))
      refine ownRetZW X155 hx hlk hS (by first | exact hk | (rw [e155]; exact hk)) hret (hb hby at_159) (by decide) (by decide) (Or.inr rfl) ?_
      show (Q_own_law Z p1 p2 p3 q1 q2 q3 h0 n0 cs0) (some (.int (1 : Int32))) T155.heap _
      rw [e155]
      exact ⟨rfl, N155⟩
set_option maxRecDepth 65536 in
set_option maxHeartbeats 40000000 in
theorem own_comes {Post : Tables → Env → Array Value → State → Outcome → State → Prop} (hpost : ∀ tb e args s v u, (limb_1_1.after args s (.returned v) u = true ∧ limb_1_2.after args s (.returned v) u = true ∧ True) → ReturnedEndW s (.returned v) u (Jvm.fieldLocs frame_1_writes args s ++ Jvm.arrayLocs frame_1_arrays args s ++ Jvm.staticLocs frame_1_statics s) 32 1152 → Post tb e args s (.returned v) u) :
    ArmFor flags0 classFile x code maxLocals ret World_1 tables_1 room_1 Calls_1 rest_1 Pre_1 Post := by
  intro l hfl _ _ p e ha hc hk s m args below hf hA hF happ hP
  obtain ⟨hcalls, hrest, hpre⟩ := hP
  obtain ⟨-, -, -, hnamed, -, -, -, hat⟩ := (Spec.applies_iff hf).mp happ
  obtain ⟨hg, hn⟩ := and_e (Cond.before_iff.mp (show (Jvm.Cond.and given_1 narrow_1).before args s = true from hpre))
  obtain ⟨hcount, hg0⟩ := and_e hg
  obtain ⟨w0, w1, w2, w3, w4, w5, rfl⟩ : ∃ w0 w1 w2 w3 w4 w5 : Value, args = #[w0, w1, w2, w3, w4, w5] := by
    have hs : args.size = 6 := by simpa [Cond.value, given_1] using hcount
    obtain ⟨L⟩ := args
    match L, hs with
    | [w0, w1, w2, w3, w4, w5], _ => exact ⟨w0, w1, w2, w3, w4, w5, rfl⟩
  have hw := fun d (hd : d ∈ tables_1) => atoms_spec (ws := Jvm.Cond.code x code maxLocals ret :: tables_1) hat d (List.mem_cons_of_mem _ hd)
  have hfit : Fit s := fun {y c} hc i hi => by
    obtain ⟨ha, rfl⟩ := Array.getElem?_eq_some_iff.mp hc
    have q := List.all_eq_true.mp ((Array.all_eq_true_iff_forall_mem.mp hF) _ (Array.getElem_mem ha)) i (List.mem_range.mpr hi)
    simpa [Array.getElem?_eq_getElem hi] using q
  obtain ⟨hq0, hg1⟩ := and_e hg0
  obtain ⟨i0, ei0⟩ := is_v hq0
  obtain rfl : w0 = (.int i0) := Option.some.inj ei0
  obtain ⟨hq1, hg2⟩ := and_e hg1
  obtain ⟨i1, ei1⟩ := is_v hq1
  obtain rfl : w1 = (.int i1) := Option.some.inj ei1
  obtain ⟨hq2, hg3⟩ := and_e hg2
  obtain ⟨i2, ei2⟩ := is_v hq2
  obtain rfl : w2 = (.int i2) := Option.some.inj ei2
  obtain ⟨hq3, hg4⟩ := and_e hg3
  obtain ⟨i3, ei3⟩ := isL_v hq3
  obtain rfl : w3 = (.long i3) := Option.some.inj ei3
  obtain ⟨hq4, hg5⟩ := and_e hg4
  obtain ⟨i4, ei4⟩ := isL_v hq4
  obtain rfl : w4 = (.long i4) := Option.some.inj ei4
  obtain ⟨i5, ei5⟩ := isL_v hg5
  obtain rfl : w5 = (.long i5) := Option.some.inj ei5
  obtain ⟨m0, n0⟩ := and_e hn
  obtain ⟨m1, n1⟩ := and_e n0
  obtain ⟨m2, n2⟩ := and_e n1
  obtain ⟨m3, n3⟩ := and_e n2
  obtain ⟨m4, n4⟩ := and_e n3
  obtain ⟨m5, n5⟩ := and_e n4
  have k3 : ∃ a, Sta s s.heap "com/example/tillbridge/tillbridge/channel/Bill$Standing" "REFUNDED" "Lcom/example/tillbridge/tillbridge/channel/Bill$Standing;" (.ref a) := by obtain ⟨a, -, S, -⟩ := own_enum m0 (hw _ (List.mem_of_getElem? (i := 32) rfl)) (hw _ (List.mem_of_getElem? (i := 33) rfl)); exact ⟨a, S⟩
  have k2 : ∃ a, Sta s s.heap "com/example/tillbridge/tillbridge/channel/Bill$Standing" "REFUNDING" "Lcom/example/tillbridge/tillbridge/channel/Bill$Standing;" (.ref a) := by obtain ⟨a, -, S, -⟩ := own_enum m1 (hw _ (List.mem_of_getElem? (i := 32) rfl)) (hw _ (List.mem_of_getElem? (i := 73) rfl)); exact ⟨a, S⟩
  have k5 : ∃ a, Sta s s.heap "com/example/tillbridge/tillbridge/channel/Bill$Standing" "REFUND_MANUAL" "Lcom/example/tillbridge/tillbridge/channel/Bill$Standing;" (.ref a) := by obtain ⟨a, -, S, -⟩ := own_enum m2 (hw _ (List.mem_of_getElem? (i := 32) rfl)) (hw _ (List.mem_of_getElem? (i := 96) rfl)); exact ⟨a, S⟩
  have k4 : ∃ a, Sta s s.heap "com/example/tillbridge/tillbridge/channel/Bill$Standing" "REFUND_FAILED" "Lcom/example/tillbridge/tillbridge/channel/Bill$Standing;" (.ref a) := by obtain ⟨a, -, S, -⟩ := own_enum m3 (hw _ (List.mem_of_getElem? (i := 32) rfl)) (hw _ (List.mem_of_getElem? (i := 98) rfl)); exact ⟨a, S⟩
  have k0 : ∃ a, Sta s s.heap "com/example/tillbridge/tillbridge/channel/Bill$Standing" "PAID" "Lcom/example/tillbridge/tillbridge/channel/Bill$Standing;" (.ref a) := by obtain ⟨a, -, S, -⟩ := own_enum m4 (hw _ (List.mem_of_getElem? (i := 32) rfl)) (hw _ (List.mem_of_getElem? (i := 100) rfl)); exact ⟨a, S⟩
  have k1 : ∃ a, Sta s s.heap "com/example/tillbridge/tillbridge/channel/Bill$Standing" "REVERSED" "Lcom/example/tillbridge/tillbridge/channel/Bill$Standing;" (.ref a) := by obtain ⟨a, -, S, -⟩ := own_enum m5 (hw _ (List.mem_of_getElem? (i := 32) rfl)) (hw _ (List.mem_of_getElem? (i := 102) rfl)); exact ⟨a, S⟩
  have k6 : ∃ a, Sta s s.heap "com/example/tillbridge/tillbridge/channel/Bill$Standing" "OTHER" "Lcom/example/tillbridge/tillbridge/channel/Bill$Standing;" (.ref a) := by obtain ⟨a, -, S, -⟩ := own_enum n5 (hw _ (List.mem_of_getElem? (i := 32) rfl)) (hw _ (List.mem_of_getElem? (i := 107) rfl)); exact ⟨a, S⟩
  obtain ⟨hsets, hown0⟩ := atoms_of _ (rest_1_c_eq ▸ (show rest_1_c.before _ s = true from hrest))
  obtain ⟨cs0, ecs⟩ := is_v (Cond.before_iff.mp (hsets _ (List.mem_of_getElem? (i := 1) rfl)))
  have S_c : Sta s s.heap "java/lang/String" "COMPACT_STRINGS" "Z" (.int cs0) := Sta.start ecs (Or.inl (hsets _ (List.mem_of_getElem? (i := 0) rfl)))
  have hcs : ¬ (cs0 = (0 : Int32)) := gotF (Cond.eq_ints ecs (Term.int_eval (0))) (not_v (Cond.before_iff.mp (hsets _ (List.mem_of_getElem? (i := 2) rfl))))
  have hheld : Jvm.Lit.constHeld s "java/lang/String" 7 := hcalls.1 ("java/lang/String", 7) (List.mem_cons_self ..)
  have hcw := hsets _ (List.mem_of_getElem? (i := 2) rfl)
  obtain ⟨n, o, h1, h2, h3, _, L, rfl, ⟨rfl, N⟩, hq⟩ := own_law l s _ hw tables_1 i0 i1 i2 i3 i4 i5 s.heap s.heap.size cs0 (Nat.le_refl _) (Old.start s) S_c hcs hheld hcw k0 k1 k2 k3 k4 k5 k6 p e ha hc hk s m _ below hf ((Spec.applies_iff_loose hf).mp happ).1 ⟨rfl, State.Warmed39.refl s, rfl, IB.start⟩ trivial
  refine ⟨n, _, h1, h2, h3, hpost _ _ _ _ _ _ ⟨Cond.after_iff.mpr rfl, Cond.after_iff.mpr (eq_i res_at (Term.int_eval (1)) rfl), trivial⟩ ⟨hq.1, hq.2.1, hq.2.2.1, (hq.2.2.2.sift fun y hy => Or.inr (N y hy)).mono (by decide) (by decide)⟩⟩
theorem main_1_1 : Claimed_1_1 := own_comes fun _ _ _ _ _ _ h hF => ⟨h.1, hF⟩
theorem main_1_2 : Claimed_1_2 := own_comes fun _ _ _ _ _ _ h hF => ⟨h.2.1, hF⟩
end Jvm.Pilot.@@N@@
namespace Jvm.Pilot.@@N@@
open Jvm Jvm.ClassFile Sem Op Lib Jvm.Free Jvm.Stand Jvm.Pilot.@@N@@.Jvm.D
/-! MADE BY PROGRAM (witnessworld.py) out of the Statement's table words and the real class files: 24 classes; the members and pool entries that the words name. The judged class is class 1, her method 3. -/
namespace start1
open Jvm.ClassFile
def u (s : String) : CpInfo := .utf8 (stringToUtf16 s)
/-- a pool by its gaps: so many unusable entries, then the entry; so many at the end -/
def gap : Nat → List CpInfo → List CpInfo
  | 0, r => r
  | n + 1, r => .unusable :: gap n r
def poolList (es : List (Nat × CpInfo)) (last : Nat) : List CpInfo := es.foldr (fun e r => gap e.1 (e.2 :: r)) (gap last [])
def pool (es : List (Nat × CpInfo)) (last : Nat) : Array CpInfo := ⟨poolList es last⟩
def fileOf (pool : Array CpInfo) (this : Nat) (attrs : Array Attribute := #[]) (ms : Array MethodInfo := #[]) (fl : Nat := 33) (sup : Nat := 0) (ifs : Array Nat := #[]) (fds : Array FieldInfo := #[]) : ClassFile where
  minorVersion := 0
  majorVersion := 65
  constantPool := pool
  accessFlags := fl
  thisClass := this
  superClass := sup
  interfaces := ifs
  fields := fds
  methods := ms
  attributes := attrs
def plain (name : String) (sup : Option ClassId) : Class where
  name := name
  kind := .ordinary
  loader := none
  accessFlags := 33
  super := sup
  interfaces := #[]
  cf := none
  fields := #[]
  methods := #[]
  instanceTypes := #[]
  staticTypes := #[]
  resolved := #[]
  callSites := []
  init := .initialized
  statics := none
  mirror := none

def pool0 : Array CpInfo := pool [(5, u "<init>"), (0, u "()V"), (1, .class_ 10), (1, u "java/lang/Object")] 113

def k0c0 : Code := { maxStack := 0, maxLocals := 1, code := object_method_1_code, exceptionTable := #[], attributes := #[] }
def k0m0 : Method := { name := "<init>", desc := "()V", sig := { parameters := [], returnType := none }, accessFlags := 1, code := some k0c0 }
/-- java/lang/Object -/
def k0 : Class := { plain "java/lang/Object" none with
  accessFlags := 33
  interfaces := #[]
  cf := some (fileOf pool0 8 #[] #[{ accessFlags := 1, nameIndex := 5, descriptorIndex := 6, attributes := #[] }] 33 0 #[] #[])
  fields := #[]
  methods := #[k0m0]
  instanceTypes := #[]
  staticTypes := #[]
  resolved := Array.replicate 124 none
  statics := none }

def pool1 : Array CpInfo := pool [(2, .class_ 4), (1, u "java/lang/Object"), (0, u "<init>"), (0, u "()V"), (0, .integer 2147483647), (0, .fieldref 9 10), (0, .class_ 11), (0, .nameAndType 12 13), (0, u "com/example/tillbridge/tillbridge/channel/Bill$Standing"), (0, u "PAID"), (0, u "Lcom/example/tillbridge/tillbridge/channel/Bill$Standing;"), (0, .fieldref 9 15), (0, .nameAndType 16 13), (0, u "REVERSED"), (0, .fieldref 9 18), (0, .nameAndType 19 13), (0, u "REFUNDING"), (0, .fieldref 9 21), (0, .nameAndType 22 13), (0, u "REFUNDED"), (0, .fieldref 9 24), (0, .nameAndType 25 13), (0, u "REFUND_FAILED"), (0, .fieldref 9 27), (0, .nameAndType 28 13), (0, u "REFUND_MANUAL"), (0, .fieldref 9 30), (0, .nameAndType 31 13), (0, u "OTHER"), (0, .class_ 33), (0, u "java/lang/String"), (0, .methodref 32 35), (0, .nameAndType 5 36), (0, u "([C)V"), (0, .methodref 38 39), (0, .class_ 40), (0, .nameAndType 41 42), (0, u "com/example/tillbridge/tillbridge/channel/LineIsRefundPinLaw"), (0, u "drawn"), (0, u "(II)Ljava/lang/String;"), (0, .methodref 32 44), (0, .nameAndType 45 46), (0, u "valueOf"), (0, u "(C)Ljava/lang/String;"), (0, .methodref 38 48), (0, .nameAndType 49 50), (0, u "standing"), (0, u "(I)Lcom/example/tillbridge/tillbridge/channel/Bill$Standing;"), (0, .long 2147483648), (1, .class_ 54), (0, u "com/example/tillbridge/tillbridge/channel/Bill$Line"), (0, .methodref 53 56), (0, .nameAndType 5 57), (0, u "(Ljava/lang/String;Ljava/lang/String;Ljava/lang/String;Lcom/example/tillbridge/tillbridge/channel/Bill$Standing;JJJ)V"), (0, .methodref 53 59), (0, .nameAndType 60 61), (0, u "isRefund"), (0, u "()Z"), (5, u "law"), (0, u "(IIIJJJ)Z")] 7

def k1m0 : Method := { name := "<init>", desc := "()V", sig := { parameters := [], returnType := none }, accessFlags := 1, code := none }
def k1c1 : Code := { maxStack := 2, maxLocals := 2, code := method_2_code, exceptionTable := #[], attributes := #[] }
def k1m1 : Method := { name := "standing", desc := "(I)Lcom/example/tillbridge/tillbridge/channel/Bill$Standing;", sig := { parameters := [.int], returnType := some (.object "com/example/tillbridge/tillbridge/channel/Bill$Standing") }, accessFlags := 10, code := some k1c1 }
def k1c2 : Code := { maxStack := 4, maxLocals := 9, code := method_3_code, exceptionTable := #[], attributes := #[] }
def k1m2 : Method := { name := "drawn", desc := "(II)Ljava/lang/String;", sig := { parameters := [.int, .int], returnType := some (.object "java/lang/String") }, accessFlags := 10, code := some k1c2 }
def k1c3 : Code := { maxStack := 12, maxLocals := 24, code := code, exceptionTable := #[], attributes := #[] }
def k1m3 : Method := { name := "law", desc := "(IIIJJJ)Z", sig := { parameters := [.int, .int, .int, .long, .long, .long], returnType := some .boolean }, accessFlags := 9, code := some k1c3 }
/-- com/example/tillbridge/tillbridge/channel/LineIsRefundPinLaw -/
def k1 : Class := { plain "com/example/tillbridge/tillbridge/channel/LineIsRefundPinLaw" (some 0) with
  accessFlags := 49
  interfaces := #[]
  cf := some (fileOf pool1 38 #[] #[{ accessFlags := 1, nameIndex := 5, descriptorIndex := 6, attributes := #[] }, { accessFlags := 10, nameIndex := 49, descriptorIndex := 50, attributes := #[] }, { accessFlags := 10, nameIndex := 41, descriptorIndex := 42, attributes := #[] }, { accessFlags := 9, nameIndex := 67, descriptorIndex := 68, attributes := #[] }] 49 2 #[] #[])
  fields := #[]
  methods := #[k1m0, k1m1, k1m2, k1m3]
  instanceTypes := #[]
  staticTypes := #[]
  resolved := Array.replicate 76 none
  statics := none }

def pool2 : Array CpInfo := pool [(1, .class_ 2), (0, u "java/io/Serializable"), (0, .class_ 4), (0, u "java/lang/Object")] 2

/-- java/io/Serializable -/
def k2 : Class := { plain "java/io/Serializable" (some 0) with
  accessFlags := 1537
  interfaces := #[]
  cf := some (fileOf pool2 1 #[] #[] 1537 3 #[] #[])
  fields := #[]
  methods := #[]
  instanceTypes := #[]
  staticTypes := #[]
  resolved := Array.replicate 7 none
  statics := none }

def pool3 : Array CpInfo := pool [(1, .class_ 2), (0, u "java/lang/Comparable"), (0, .class_ 4), (0, u "java/lang/Object")] 7

/-- java/lang/Comparable -/
def k3 : Class := { plain "java/lang/Comparable" (some 0) with
  accessFlags := 1537
  interfaces := #[]
  cf := some (fileOf pool3 1 #[] #[] 1537 3 #[] #[])
  fields := #[]
  methods := #[]
  instanceTypes := #[]
  staticTypes := #[]
  resolved := Array.replicate 12 none
  statics := none }

def pool4 : Array CpInfo := pool [(2, .class_ 4), (1, u "java/lang/CharSequence"), (42, .class_ 48), (0, u "java/lang/CharSequence$1CodePointIterator"), (10, .class_ 60), (0, u "java/lang/CharSequence$1CharIterator"), (5, .class_ 67), (0, u "java/lang/Object")] 63

/-- java/lang/CharSequence -/
def k4 : Class := { plain "java/lang/CharSequence" (some 0) with
  accessFlags := 1537
  interfaces := #[]
  cf := some (fileOf pool4 2 #[.nestMembers #[47, 59]] #[] 1537 66 #[] #[])
  fields := #[]
  methods := #[]
  instanceTypes := #[]
  staticTypes := #[]
  resolved := Array.replicate 131 none
  statics := none }

def pool5 : Array CpInfo := pool [(1, .class_ 2), (0, u "java/lang/constant/Constable"), (0, .class_ 4), (0, u "java/lang/Object")] 6

/-- java/lang/constant/Constable -/
def k5 : Class := { plain "java/lang/constant/Constable" (some 0) with
  accessFlags := 1537
  interfaces := #[]
  cf := some (fileOf pool5 1 #[] #[] 1537 3 #[] #[])
  fields := #[]
  methods := #[]
  instanceTypes := #[]
  staticTypes := #[]
  resolved := Array.replicate 11 none
  statics := none }

def pool6 : Array CpInfo := pool [(1, .class_ 2), (0, u "java/lang/constant/ConstantDesc"), (0, .class_ 4), (0, u "java/lang/Object")] 32

/-- java/lang/constant/ConstantDesc -/
def k6 : Class := { plain "java/lang/constant/ConstantDesc" (some 0) with
  accessFlags := 1537
  interfaces := #[]
  cf := some (fileOf pool6 1 #[] #[] 1537 3 #[] #[])
  fields := #[]
  methods := #[]
  instanceTypes := #[]
  staticTypes := #[]
  resolved := Array.replicate 37 none
  statics := none }

def pool7 : Array CpInfo := pool [(1, .methodref 2 3), (0, .class_ 4), (0, .nameAndType 5 6), (0, u "java/lang/Object"), (0, u "<init>"), (0, u "()V"), (0, .string 8), (0, u ""), (0, .fieldref 10 11), (0, .class_ 12), (0, .nameAndType 13 14), (0, u "java/lang/String"), (0, u "value"), (0, u "[B"), (0, .fieldref 10 16), (0, .nameAndType 17 18), (0, u "coder"), (0, u "B"), (2, u "hash"), (0, u "I"), (2, u "hashIsZero"), (0, u "Z"), (0, .methodref 10 28), (0, .nameAndType 5 29), (0, u "([CIILjava/lang/Void;)V"), (8, .fieldref 10 39), (0, .nameAndType 40 26), (0, u "COMPACT_STRINGS"), (1, .class_ 44), (1, u "java/lang/StringUTF16"), (0, u "compress"), (1, .methodref 42 48), (0, .nameAndType 49 50), (0, u "coderFromArrayLen"), (0, u "([BI)B"), (2, u "toBytes"), (53, .class_ 109), (1, u "java/lang/StringLatin1"), (67, .methodref 42 178), (0, .nameAndType 45 179), (0, u "([CII)[B"), (29, .methodref 10 210), (0, .nameAndType 5 211), (0, u "([BB)V"), (157, u "(C)Z"), (205, .class_ 576), (0, u "java/lang/CharSequence"), (22, u "CASE_INSENSITIVE_ORDER"), (0, u "Ljava/util/Comparator;"), (181, u "valueOf"), (0, u "(C)Ljava/lang/String;"), (226, u "([C)V"), (4, .methodref 107 1016), (0, .nameAndType 1017 369), (0, u "canEncode"), (0, .methodref 107 1019), (0, .nameAndType 53 1020), (0, u "(C)[B"), (80, u "serialPersistentFields"), (0, u "[Ljava/io/ObjectStreamField;"), (0, .class_ 1104), (0, u "java/lang/String$CaseInsensitiveComparator"), (1, .class_ 1107), (0, u "java/io/Serializable"), (0, .class_ 1109), (0, u "java/lang/Comparable"), (0, .class_ 1111), (0, u "java/lang/constant/Constable"), (0, .class_ 1113), (0, u "java/lang/constant/ConstantDesc"), (2, u "serialVersionUID"), (0, u "J"), (3, u "REPL"), (0, u "C"), (2, u "LATIN1"), (1, u "UTF16")] 323

def k7m0 : Method := { name := "<init>", desc := "()V", sig := { parameters := [], returnType := none }, accessFlags := 1, code := none }
def k7c1 : Code := { maxStack := 5, maxLocals := 2, code := jdk_42_method_3_code, exceptionTable := #[], attributes := #[] }
def k7m1 : Method := { name := "<init>", desc := "([C)V", sig := { parameters := [(.array .char)], returnType := none }, accessFlags := 1, code := some k7c1 }
def k7c2 : Code := { maxStack := 4, maxLocals := 1, code := jdk_42_method_139_code, exceptionTable := #[], attributes := #[] }
def k7m2 : Method := { name := "valueOf", desc := "(C)Ljava/lang/String;", sig := { parameters := [.char], returnType := some (.object "java/lang/String") }, accessFlags := 9, code := some k7c2 }
def k7c3 : Code := { maxStack := 4, maxLocals := 6, code := jdk_42_method_149_code, exceptionTable := #[], attributes := #[] }
def k7m3 : Method := { name := "<init>", desc := "([CIILjava/lang/Void;)V", sig := { parameters := [(.array .char), .int, .int, (.object "java/lang/Void")], returnType := none }, accessFlags := 2, code := some k7c3 }
def k7c4 : Code := { maxStack := 2, maxLocals := 3, code := jdk_42_method_151_code, exceptionTable := #[], attributes := #[] }
def k7m4 : Method := { name := "<init>", desc := "([BB)V", sig := { parameters := [(.array .byte), .byte], returnType := none }, accessFlags := 0, code := some k7c4 }
/-- java/lang/String -/
def k7 : Class := { plain "java/lang/String" (some 0) with
  accessFlags := 49
  interfaces := #[2, 3, 4, 5, 6]
  cf := some (fileOf pool7 10 #[.nestMembers #[1103]] #[{ accessFlags := 1, nameIndex := 5, descriptorIndex := 6, attributes := #[] }, { accessFlags := 1, nameIndex := 5, descriptorIndex := 1010, attributes := #[] }, { accessFlags := 9, nameIndex := 782, descriptorIndex := 783, attributes := #[] }, { accessFlags := 2, nameIndex := 5, descriptorIndex := 29, attributes := #[] }, { accessFlags := 0, nameIndex := 5, descriptorIndex := 211, attributes := #[] }] 49 2 #[1106, 1108, 575, 1110, 1112] #[{ accessFlags := 18, nameIndex := 13, descriptorIndex := 14, attributes := #[] }, { accessFlags := 18, nameIndex := 17, descriptorIndex := 18, attributes := #[] }, { accessFlags := 2, nameIndex := 21, descriptorIndex := 22, attributes := #[] }, { accessFlags := 2, nameIndex := 25, descriptorIndex := 26, attributes := #[] }, { accessFlags := 26, nameIndex := 1116, descriptorIndex := 1117, attributes := #[] }, { accessFlags := 24, nameIndex := 40, descriptorIndex := 26, attributes := #[] }, { accessFlags := 26, nameIndex := 1101, descriptorIndex := 1102, attributes := #[] }, { accessFlags := 26, nameIndex := 1121, descriptorIndex := 1122, attributes := #[] }, { accessFlags := 25, nameIndex := 599, descriptorIndex := 600, attributes := #[] }, { accessFlags := 24, nameIndex := 1125, descriptorIndex := 18, attributes := #[] }, { accessFlags := 24, nameIndex := 1127, descriptorIndex := 18, attributes := #[] }])
  fields := #[{ name := "value", type := (.array .byte), accessFlags := 18, slot := 0, constantValue := 0 }, { name := "coder", type := .byte, accessFlags := 18, slot := 1, constantValue := 0 }, { name := "hash", type := .int, accessFlags := 2, slot := 2, constantValue := 0 }, { name := "hashIsZero", type := .boolean, accessFlags := 2, slot := 3, constantValue := 0 }, { name := "serialVersionUID", type := .long, accessFlags := 26, slot := 0, constantValue := 0 }, { name := "COMPACT_STRINGS", type := .boolean, accessFlags := 24, slot := 1, constantValue := 0 }, { name := "serialPersistentFields", type := (.array (.object "java/io/ObjectStreamField")), accessFlags := 26, slot := 2, constantValue := 0 }, { name := "REPL", type := .char, accessFlags := 26, slot := 3, constantValue := 0 }, { name := "CASE_INSENSITIVE_ORDER", type := (.object "java/util/Comparator"), accessFlags := 25, slot := 4, constantValue := 0 }, { name := "LATIN1", type := .byte, accessFlags := 24, slot := 5, constantValue := 0 }, { name := "UTF16", type := .byte, accessFlags := 24, slot := 6, constantValue := 0 }]
  methods := #[k7m0, k7m1, k7m2, k7m3, k7m4]
  instanceTypes := #[(.array .byte), .byte, .int, .boolean]
  staticTypes := #[.long, .boolean, (.array (.object "java/io/ObjectStreamField")), .char, (.object "java/util/Comparator"), .byte, .byte]
  resolved := Array.replicate 1451 none
  statics := some 0 }

def pool8 : Array CpInfo := pool [(4, .class_ 6), (1, u "java/lang/Object"), (0, u "<init>"), (0, u "()V"), (5, .class_ 16), (1, u "java/lang/StringLatin1"), (73, u "canEncode"), (14, u "(C)Z"), (15, u "$assertionsDisabled"), (0, u "Z"), (98, .class_ 223), (1, u "java/lang/StringLatin1$LinesSpliterator"), (156, u "toBytes"), (1, u "(C)[B"), (7, .class_ 391), (0, u "java/lang/StringLatin1$CharsSpliterator")] 3

def k8m0 : Method := { name := "<init>", desc := "()V", sig := { parameters := [], returnType := none }, accessFlags := 0, code := none }
def k8c1 : Code := { maxStack := 2, maxLocals := 1, code := jdk_43_method_3_code, exceptionTable := #[], attributes := #[] }
def k8m1 : Method := { name := "canEncode", desc := "(C)Z", sig := { parameters := [.char], returnType := some .boolean }, accessFlags := 9, code := some k8c1 }
def k8c2 : Code := { maxStack := 4, maxLocals := 1, code := jdk_43_method_46_code, exceptionTable := #[], attributes := #[] }
def k8m2 : Method := { name := "toBytes", desc := "(C)[B", sig := { parameters := [.char], returnType := some (.array .byte) }, accessFlags := 9, code := some k8c2 }
/-- java/lang/StringLatin1 -/
def k8 : Class := { plain "java/lang/StringLatin1" (some 0) with
  accessFlags := 48
  interfaces := #[]
  cf := some (fileOf pool8 14 #[.nestMembers #[390, 221]] #[{ accessFlags := 0, nameIndex := 7, descriptorIndex := 8, attributes := #[] }, { accessFlags := 9, nameIndex := 90, descriptorIndex := 105, attributes := #[] }, { accessFlags := 9, nameIndex := 380, descriptorIndex := 382, attributes := #[] }] 48 4 #[] #[{ accessFlags := 4120, nameIndex := 121, descriptorIndex := 122, attributes := #[] }])
  fields := #[{ name := "$assertionsDisabled", type := .boolean, accessFlags := 4120, slot := 0, constantValue := 0 }]
  methods := #[k8m0, k8m1, k8m2]
  instanceTypes := #[]
  staticTypes := #[.boolean]
  resolved := Array.replicate 395 none
  statics := none }

def pool9 : Array CpInfo := pool [(2, .class_ 4), (1, u "java/lang/Enum"), (0, u "name"), (0, u "Ljava/lang/String;"), (2, u "ordinal"), (0, u "I"), (1, .class_ 14), (1, u "java/lang/Object"), (4, u "hash"), (86, .class_ 108), (1, u "java/lang/Enum$EnumDesc"), (2, .class_ 112), (0, u "java/lang/constant/Constable"), (0, .class_ 114), (0, u "java/lang/Comparable"), (0, .class_ 116), (0, u "java/io/Serializable")] 87

/-- java/lang/Enum -/
def k9 : Class := { plain "java/lang/Enum" (some 0) with
  accessFlags := 1057
  interfaces := #[5, 3, 2]
  cf := some (fileOf pool9 2 #[.nestMembers #[106]] #[] 1057 12 #[111, 113, 115] #[{ accessFlags := 18, nameIndex := 5, descriptorIndex := 6, attributes := #[] }, { accessFlags := 18, nameIndex := 9, descriptorIndex := 10, attributes := #[] }, { accessFlags := 2, nameIndex := 19, descriptorIndex := 10, attributes := #[] }])
  fields := #[{ name := "name", type := (.object "java/lang/String"), accessFlags := 18, slot := 0, constantValue := 0 }, { name := "ordinal", type := .int, accessFlags := 18, slot := 1, constantValue := 0 }, { name := "hash", type := .int, accessFlags := 2, slot := 2, constantValue := 0 }]
  methods := #[]
  instanceTypes := #[(.object "java/lang/String"), .int, .int]
  staticTypes := #[]
  resolved := Array.replicate 204 none
  statics := none }

def pool10 : Array CpInfo := pool [(1, .class_ 2), (0, u "com/example/tillbridge/tillbridge/channel/Bill$Standing"), (2, u "PAID"), (0, u "Lcom/example/tillbridge/tillbridge/channel/Bill$Standing;"), (2, u "REVERSED"), (2, u "REFUNDING"), (2, u "REFUNDED"), (2, u "REFUND_FAILED"), (2, u "REFUND_MANUAL"), (2, u "OTHER"), (2, u "$VALUES"), (0, u "[Lcom/example/tillbridge/tillbridge/channel/Bill$Standing;"), (6, .class_ 37), (1, u "java/lang/Enum"), (30, .class_ 69), (0, u "com/example/tillbridge/tillbridge/channel/Bill")] 2

/-- com/example/tillbridge/tillbridge/channel/Bill$Standing -/
def k10 : Class := { plain "com/example/tillbridge/tillbridge/channel/Bill$Standing" (some 9) with
  accessFlags := 16433
  interfaces := #[]
  cf := some (fileOf pool10 1 #[.nestHost 68] #[] 16433 35 #[] #[{ accessFlags := 16409, nameIndex := 5, descriptorIndex := 6, attributes := #[] }, { accessFlags := 16409, nameIndex := 9, descriptorIndex := 6, attributes := #[] }, { accessFlags := 16409, nameIndex := 12, descriptorIndex := 6, attributes := #[] }, { accessFlags := 16409, nameIndex := 15, descriptorIndex := 6, attributes := #[] }, { accessFlags := 16409, nameIndex := 18, descriptorIndex := 6, attributes := #[] }, { accessFlags := 16409, nameIndex := 21, descriptorIndex := 6, attributes := #[] }, { accessFlags := 16409, nameIndex := 24, descriptorIndex := 6, attributes := #[] }, { accessFlags := 4122, nameIndex := 27, descriptorIndex := 28, attributes := #[] }])
  fields := #[{ name := "PAID", type := (.object "com/example/tillbridge/tillbridge/channel/Bill$Standing"), accessFlags := 16409, slot := 0, constantValue := 0 }, { name := "REVERSED", type := (.object "com/example/tillbridge/tillbridge/channel/Bill$Standing"), accessFlags := 16409, slot := 1, constantValue := 0 }, { name := "REFUNDING", type := (.object "com/example/tillbridge/tillbridge/channel/Bill$Standing"), accessFlags := 16409, slot := 2, constantValue := 0 }, { name := "REFUNDED", type := (.object "com/example/tillbridge/tillbridge/channel/Bill$Standing"), accessFlags := 16409, slot := 3, constantValue := 0 }, { name := "REFUND_FAILED", type := (.object "com/example/tillbridge/tillbridge/channel/Bill$Standing"), accessFlags := 16409, slot := 4, constantValue := 0 }, { name := "REFUND_MANUAL", type := (.object "com/example/tillbridge/tillbridge/channel/Bill$Standing"), accessFlags := 16409, slot := 5, constantValue := 0 }, { name := "OTHER", type := (.object "com/example/tillbridge/tillbridge/channel/Bill$Standing"), accessFlags := 16409, slot := 6, constantValue := 0 }, { name := "$VALUES", type := (.array (.object "com/example/tillbridge/tillbridge/channel/Bill$Standing")), accessFlags := 4122, slot := 7, constantValue := 0 }]
  methods := #[]
  instanceTypes := #[(.object "java/lang/String"), .int, .int]
  staticTypes := #[(.object "com/example/tillbridge/tillbridge/channel/Bill$Standing"), (.object "com/example/tillbridge/tillbridge/channel/Bill$Standing"), (.object "com/example/tillbridge/tillbridge/channel/Bill$Standing"), (.object "com/example/tillbridge/tillbridge/channel/Bill$Standing"), (.object "com/example/tillbridge/tillbridge/channel/Bill$Standing"), (.object "com/example/tillbridge/tillbridge/channel/Bill$Standing"), (.object "com/example/tillbridge/tillbridge/channel/Bill$Standing"), (.array (.object "com/example/tillbridge/tillbridge/channel/Bill$Standing"))]
  resolved := Array.replicate 72 none
  statics := some 1 }

def pool11 : Array CpInfo := pool [(1, .methodref 2 3), (0, .class_ 4), (0, .nameAndType 5 6), (0, u "java/lang/Object"), (0, u "<init>"), (0, u "()V"), (0, .class_ 8), (0, u "java/lang/Record")] 13

def k11c0 : Code := { maxStack := 1, maxLocals := 1, code := jdk_30_method_1_code, exceptionTable := #[], attributes := #[] }
def k11m0 : Method := { name := "<init>", desc := "()V", sig := { parameters := [], returnType := none }, accessFlags := 4, code := some k11c0 }
/-- java/lang/Record -/
def k11 : Class := { plain "java/lang/Record" (some 0) with
  accessFlags := 1057
  interfaces := #[]
  cf := some (fileOf pool11 7 #[] #[{ accessFlags := 4, nameIndex := 5, descriptorIndex := 6, attributes := #[] }] 1057 2 #[] #[])
  fields := #[]
  methods := #[k11m0]
  instanceTypes := #[]
  staticTypes := #[]
  resolved := Array.replicate 22 none
  statics := none }

def pool12 : Array CpInfo := pool [(1, .methodref 2 3), (0, .class_ 4), (0, .nameAndType 5 6), (0, u "java/lang/Record"), (0, u "<init>"), (0, u "()V"), (0, .methodref 8 9), (0, .class_ 10), (0, .nameAndType 11 12), (0, u "com/example/tillbridge/tillbridge/channel/Bill"), (0, u "isLineAmount"), (0, u "(J)Z"), (9, .fieldref 23 24), (0, .class_ 25), (0, .nameAndType 26 27), (0, u "com/example/tillbridge/tillbridge/channel/Bill$Line"), (0, u "outTradeNo"), (0, u "Ljava/lang/String;"), (0, .fieldref 23 29), (0, .nameAndType 30 27), (0, u "outRefundNo"), (0, .fieldref 23 32), (0, .nameAndType 33 27), (0, u "state"), (0, .fieldref 23 35), (0, .nameAndType 36 37), (0, u "standing"), (0, u "Lcom/example/tillbridge/tillbridge/channel/Bill$Standing;"), (0, .fieldref 23 39), (0, .nameAndType 40 41), (0, u "amount"), (0, u "J"), (0, .fieldref 23 43), (0, .nameAndType 44 41), (0, u "couponRefund"), (0, .fieldref 23 46), (0, .nameAndType 47 41), (0, u "fee"), (12, u "(Ljava/lang/String;Ljava/lang/String;Ljava/lang/String;Lcom/example/tillbridge/tillbridge/channel/Bill$Standing;JJJ)V"), (8, u "isRefund"), (0, u "()Z")] 42

def k12c0 : Code := { maxStack := 8, maxLocals := 11, code := prog_7_method_1_code, exceptionTable := #[], attributes := #[] }
def k12m0 : Method := { name := "<init>", desc := "(Ljava/lang/String;Ljava/lang/String;Ljava/lang/String;Lcom/example/tillbridge/tillbridge/channel/Bill$Standing;JJJ)V", sig := { parameters := [(.object "java/lang/String"), (.object "java/lang/String"), (.object "java/lang/String"), (.object "com/example/tillbridge/tillbridge/channel/Bill$Standing"), .long, .long, .long], returnType := none }, accessFlags := 1, code := some k12c0 }
def k12c1 : Code := { maxStack := 1, maxLocals := 1, code := prog_7_method_2_code, exceptionTable := #[], attributes := #[] }
def k12m1 : Method := { name := "isRefund", desc := "()Z", sig := { parameters := [], returnType := some .boolean }, accessFlags := 1, code := some k12c1 }
/-- com/example/tillbridge/tillbridge/channel/Bill$Line -/
def k12 : Class := { plain "com/example/tillbridge/tillbridge/channel/Bill$Line" (some 11) with
  accessFlags := 49
  interfaces := #[]
  cf := some (fileOf pool12 23 #[.nestHost 8] #[{ accessFlags := 1, nameIndex := 5, descriptorIndex := 60, attributes := #[] }, { accessFlags := 1, nameIndex := 69, descriptorIndex := 70, attributes := #[] }] 49 2 #[] #[{ accessFlags := 18, nameIndex := 26, descriptorIndex := 27, attributes := #[] }, { accessFlags := 18, nameIndex := 30, descriptorIndex := 27, attributes := #[] }, { accessFlags := 18, nameIndex := 33, descriptorIndex := 27, attributes := #[] }, { accessFlags := 18, nameIndex := 36, descriptorIndex := 37, attributes := #[] }, { accessFlags := 18, nameIndex := 40, descriptorIndex := 41, attributes := #[] }, { accessFlags := 18, nameIndex := 44, descriptorIndex := 41, attributes := #[] }, { accessFlags := 18, nameIndex := 47, descriptorIndex := 41, attributes := #[] }])
  fields := #[{ name := "outTradeNo", type := (.object "java/lang/String"), accessFlags := 18, slot := 0, constantValue := 0 }, { name := "outRefundNo", type := (.object "java/lang/String"), accessFlags := 18, slot := 1, constantValue := 0 }, { name := "state", type := (.object "java/lang/String"), accessFlags := 18, slot := 2, constantValue := 0 }, { name := "standing", type := (.object "com/example/tillbridge/tillbridge/channel/Bill$Standing"), accessFlags := 18, slot := 3, constantValue := 0 }, { name := "amount", type := .long, accessFlags := 18, slot := 4, constantValue := 0 }, { name := "couponRefund", type := .long, accessFlags := 18, slot := 5, constantValue := 0 }, { name := "fee", type := .long, accessFlags := 18, slot := 6, constantValue := 0 }]
  methods := #[k12m0, k12m1]
  instanceTypes := #[(.object "java/lang/String"), (.object "java/lang/String"), (.object "java/lang/String"), (.object "com/example/tillbridge/tillbridge/channel/Bill$Standing"), .long, .long, .long]
  staticTypes := #[]
  resolved := Array.replicate 113 none
  statics := none }

def pool13 : Array CpInfo := pool [(2, .class_ 4), (1, u "java/lang/Record"), (9, .class_ 16), (1, u "com/example/tillbridge/tillbridge/channel/Bill"), (0, u "lines"), (0, u "Ljava/util/List;"), (2, u "totals"), (0, u "Lcom/example/tillbridge/tillbridge/channel/Bill$Totals;"), (2, .long 18446744071562067969), (1, .long 2147483647), (15, .class_ 44), (0, u "com/example/tillbridge/tillbridge/channel/Bill$Line"), (18, .class_ 65), (1, u "com/example/tillbridge/tillbridge/channel/Bill$Standing"), (8, .class_ 75), (0, u "com/example/tillbridge/tillbridge/channel/Bill$Totals"), (26, u "isLineAmount"), (0, u "(J)Z")] 32

def k13c0 : Code := { maxStack := 4, maxLocals := 2, code := prog_6_method_2_code, exceptionTable := #[], attributes := #[] }
def k13m0 : Method := { name := "isLineAmount", desc := "(J)Z", sig := { parameters := [.long], returnType := some .boolean }, accessFlags := 9, code := some k13c0 }
/-- com/example/tillbridge/tillbridge/channel/Bill -/
def k13 : Class := { plain "com/example/tillbridge/tillbridge/channel/Bill" (some 11) with
  accessFlags := 49
  interfaces := #[]
  cf := some (fileOf pool13 14 #[.nestMembers #[74, 43, 63]] #[{ accessFlags := 9, nameIndex := 102, descriptorIndex := 103, attributes := #[] }] 49 2 #[] #[{ accessFlags := 18, nameIndex := 17, descriptorIndex := 18, attributes := #[] }, { accessFlags := 18, nameIndex := 21, descriptorIndex := 22, attributes := #[] }])
  fields := #[{ name := "lines", type := (.object "java/util/List"), accessFlags := 18, slot := 0, constantValue := 0 }, { name := "totals", type := (.object "com/example/tillbridge/tillbridge/channel/Bill$Totals"), accessFlags := 18, slot := 1, constantValue := 0 }]
  methods := #[k13m0]
  instanceTypes := #[(.object "java/util/List"), (.object "com/example/tillbridge/tillbridge/channel/Bill$Totals")]
  staticTypes := #[]
  resolved := Array.replicate 136 none
  statics := none }

def pool14 : Array CpInfo := pool [(6, .class_ 8), (1, u "java/lang/Object"), (0, u "<init>"), (0, u "()V"), (1, .class_ 14), (1, u "java/lang/StringUTF16"), (31, u "$assertionsDisabled"), (0, u "Z"), (13, u "HI_BYTE_SHIFT"), (0, u "I"), (2, u "LO_BYTE_SHIFT"), (49, .methodref 12 116), (0, .nameAndType 117 118), (0, u "compress"), (0, u "([CI[BII)I"), (3, u "([CII)[B"), (138, u "coderFromArrayLen"), (0, u "([BI)B"), (106, .class_ 371), (1, u "java/lang/StringUTF16$LinesSpliterator"), (58, u "MAX_LENGTH"), (196, .class_ 628), (0, u "java/lang/StringUTF16$CodePointsSpliterator"), (0, .class_ 630), (0, u "java/lang/StringUTF16$CharsSpliterator")] 4

def k14m0 : Method := { name := "<init>", desc := "()V", sig := { parameters := [], returnType := none }, accessFlags := 0, code := none }
def k14c1 : Code := { maxStack := 2, maxLocals := 2, code := jdk_52_method_15_code, exceptionTable := #[], attributes := #[] }
def k14m1 : Method := { name := "coderFromArrayLen", desc := "([BI)B", sig := { parameters := [(.array .byte), .int], returnType := some .byte }, accessFlags := 8, code := some k14c1 }
def k14c2 : Code := { maxStack := 5, maxLocals := 6, code := jdk_52_method_16_code, exceptionTable := #[], attributes := #[] }
def k14m2 : Method := { name := "compress", desc := "([CII)[B", sig := { parameters := [(.array .char), .int, .int], returnType := some (.array .byte) }, accessFlags := 9, code := some k14c2 }
def k14c3 : Code := { maxStack := 3, maxLocals := 7, code := jdk_52_method_21_code, exceptionTable := #[], attributes := #[] }
def k14m3 : Method := { name := "compress", desc := "([CI[BII)I", sig := { parameters := [(.array .char), .int, (.array .byte), .int, .int], returnType := some .int }, accessFlags := 9, code := some k14c3 }
/-- java/lang/StringUTF16 -/
def k14 : Class := { plain "java/lang/StringUTF16" (some 0) with
  accessFlags := 48
  interfaces := #[]
  cf := some (fileOf pool14 12 #[.nestMembers #[627, 629, 369]] #[{ accessFlags := 0, nameIndex := 9, descriptorIndex := 10, attributes := #[] }, { accessFlags := 8, nameIndex := 261, descriptorIndex := 262, attributes := #[] }, { accessFlags := 9, nameIndex := 117, descriptorIndex := 122, attributes := #[] }, { accessFlags := 9, nameIndex := 117, descriptorIndex := 118, attributes := #[] }] 48 6 #[] #[{ accessFlags := 26, nameIndex := 61, descriptorIndex := 62, attributes := #[] }, { accessFlags := 26, nameIndex := 65, descriptorIndex := 62, attributes := #[] }, { accessFlags := 24, nameIndex := 430, descriptorIndex := 62, attributes := #[] }, { accessFlags := 4120, nameIndex := 46, descriptorIndex := 47, attributes := #[] }])
  fields := #[{ name := "HI_BYTE_SHIFT", type := .int, accessFlags := 26, slot := 0, constantValue := 0 }, { name := "LO_BYTE_SHIFT", type := .int, accessFlags := 26, slot := 1, constantValue := 0 }, { name := "MAX_LENGTH", type := .int, accessFlags := 24, slot := 2, constantValue := 0 }, { name := "$assertionsDisabled", type := .boolean, accessFlags := 4120, slot := 3, constantValue := 0 }]
  methods := #[k14m0, k14m1, k14m2, k14m3]
  instanceTypes := #[]
  staticTypes := #[.int, .int, .int, .boolean]
  resolved := Array.replicate 635 none
  statics := none }

def pool15 : Array CpInfo := pool [(2, .class_ 4), (1, u "java/lang/Object"), (0, u "<init>"), (0, u "()V"), (17, .class_ 26), (1, u "jdk/internal/util/Preconditions"), (28, .class_ 56), (0, u "jdk/internal/util/Preconditions$4"), (57, .class_ 115), (0, u "jdk/internal/util/Preconditions$1"), (7, u "SIOOBE_FORMATTER"), (0, u "Ljava/util/function/BiFunction;"), (0, .class_ 126), (0, u "jdk/internal/util/Preconditions$2"), (3, u "AIOOBE_FORMATTER"), (0, .class_ 132), (0, u "jdk/internal/util/Preconditions$3"), (3, u "IOOBE_FORMATTER")] 57

def k15m0 : Method := { name := "<init>", desc := "()V", sig := { parameters := [], returnType := none }, accessFlags := 1, code := none }
/-- jdk/internal/util/Preconditions -/
def k15 : Class := { plain "jdk/internal/util/Preconditions" (some 0) with
  accessFlags := 33
  interfaces := #[]
  cf := some (fileOf pool15 24 #[.nestMembers #[55, 131, 125, 114]] #[{ accessFlags := 1, nameIndex := 5, descriptorIndex := 6, attributes := #[] }] 33 2 #[] #[{ accessFlags := 25, nameIndex := 123, descriptorIndex := 124, attributes := #[] }, { accessFlags := 25, nameIndex := 130, descriptorIndex := 124, attributes := #[] }, { accessFlags := 25, nameIndex := 136, descriptorIndex := 124, attributes := #[] }])
  fields := #[{ name := "SIOOBE_FORMATTER", type := (.object "java/util/function/BiFunction"), accessFlags := 25, slot := 0, constantValue := 0 }, { name := "AIOOBE_FORMATTER", type := (.object "java/util/function/BiFunction"), accessFlags := 25, slot := 1, constantValue := 0 }, { name := "IOOBE_FORMATTER", type := (.object "java/util/function/BiFunction"), accessFlags := 25, slot := 2, constantValue := 0 }]
  methods := #[k15m0]
  instanceTypes := #[]
  staticTypes := #[(.object "java/util/function/BiFunction"), (.object "java/util/function/BiFunction"), (.object "java/util/function/BiFunction")]
  resolved := Array.replicate 194 none
  statics := some 2 }

def pool16 : Array CpInfo := pool [(9, u "<init>"), (6, .class_ 18), (1, u "java/lang/Object"), (0, u "()V"), (1, .class_ 23), (1, u "jdk/internal/util/ArraysSupport"), (0, u "LOG2_ARRAY_LONG_INDEX_SCALE"), (0, u "I"), (2, u "U"), (0, u "Ljdk/internal/misc/Unsafe;"), (8, u "BIG_ENDIAN"), (0, u "Z"), (8, u "LOG2_BYTE_BIT_SIZE"), (4, u "LOG2_ARRAY_INT_INDEX_SCALE"), (54, u "JLA"), (0, u "Ljdk/internal/access/JavaLangAccess;"), (11, u "LOG2_ARRAY_BOOLEAN_INDEX_SCALE"), (9, u "LOG2_ARRAY_BYTE_INDEX_SCALE"), (5, u "LOG2_ARRAY_CHAR_INDEX_SCALE"), (5, u "LOG2_ARRAY_SHORT_INDEX_SCALE"), (18, u "LOG2_ARRAY_FLOAT_INDEX_SCALE"), (24, u "LOG2_ARRAY_DOUBLE_INDEX_SCALE"), (89, u "T_BOOLEAN"), (2, u "T_CHAR"), (1, u "T_FLOAT"), (1, u "T_DOUBLE"), (1, u "T_BYTE"), (1, u "T_SHORT"), (1, u "T_INT"), (1, u "T_LONG"), (1, u "SOFT_MAX_ARRAY_LENGTH")] 83

def k16m0 : Method := { name := "<init>", desc := "()V", sig := { parameters := [], returnType := none }, accessFlags := 2, code := none }
/-- jdk/internal/util/ArraysSupport -/
def k16 : Class := { plain "jdk/internal/util/ArraysSupport" (some 0) with
  accessFlags := 33
  interfaces := #[]
  cf := some (fileOf pool16 21 #[] #[{ accessFlags := 2, nameIndex := 9, descriptorIndex := 19, attributes := #[] }] 33 16 #[] #[{ accessFlags := 24, nameIndex := 28, descriptorIndex := 29, attributes := #[] }, { accessFlags := 26, nameIndex := 38, descriptorIndex := 39, attributes := #[] }, { accessFlags := 25, nameIndex := 121, descriptorIndex := 25, attributes := #[] }, { accessFlags := 25, nameIndex := 131, descriptorIndex := 25, attributes := #[] }, { accessFlags := 25, nameIndex := 137, descriptorIndex := 25, attributes := #[] }, { accessFlags := 25, nameIndex := 143, descriptorIndex := 25, attributes := #[] }, { accessFlags := 25, nameIndex := 53, descriptorIndex := 25, attributes := #[] }, { accessFlags := 25, nameIndex := 24, descriptorIndex := 25, attributes := #[] }, { accessFlags := 25, nameIndex := 162, descriptorIndex := 25, attributes := #[] }, { accessFlags := 25, nameIndex := 187, descriptorIndex := 25, attributes := #[] }, { accessFlags := 26, nameIndex := 48, descriptorIndex := 25, attributes := #[] }, { accessFlags := 25, nameIndex := 277, descriptorIndex := 25, attributes := #[] }, { accessFlags := 25, nameIndex := 280, descriptorIndex := 25, attributes := #[] }, { accessFlags := 25, nameIndex := 282, descriptorIndex := 25, attributes := #[] }, { accessFlags := 25, nameIndex := 284, descriptorIndex := 25, attributes := #[] }, { accessFlags := 25, nameIndex := 286, descriptorIndex := 25, attributes := #[] }, { accessFlags := 25, nameIndex := 288, descriptorIndex := 25, attributes := #[] }, { accessFlags := 25, nameIndex := 290, descriptorIndex := 25, attributes := #[] }, { accessFlags := 25, nameIndex := 292, descriptorIndex := 25, attributes := #[] }, { accessFlags := 26, nameIndex := 108, descriptorIndex := 109, attributes := #[] }, { accessFlags := 25, nameIndex := 294, descriptorIndex := 25, attributes := #[] }])
  fields := #[{ name := "U", type := (.object "jdk/internal/misc/Unsafe"), accessFlags := 24, slot := 0, constantValue := 0 }, { name := "BIG_ENDIAN", type := .boolean, accessFlags := 26, slot := 1, constantValue := 0 }, { name := "LOG2_ARRAY_BOOLEAN_INDEX_SCALE", type := .int, accessFlags := 25, slot := 2, constantValue := 0 }, { name := "LOG2_ARRAY_BYTE_INDEX_SCALE", type := .int, accessFlags := 25, slot := 3, constantValue := 0 }, { name := "LOG2_ARRAY_CHAR_INDEX_SCALE", type := .int, accessFlags := 25, slot := 4, constantValue := 0 }, { name := "LOG2_ARRAY_SHORT_INDEX_SCALE", type := .int, accessFlags := 25, slot := 5, constantValue := 0 }, { name := "LOG2_ARRAY_INT_INDEX_SCALE", type := .int, accessFlags := 25, slot := 6, constantValue := 0 }, { name := "LOG2_ARRAY_LONG_INDEX_SCALE", type := .int, accessFlags := 25, slot := 7, constantValue := 0 }, { name := "LOG2_ARRAY_FLOAT_INDEX_SCALE", type := .int, accessFlags := 25, slot := 8, constantValue := 0 }, { name := "LOG2_ARRAY_DOUBLE_INDEX_SCALE", type := .int, accessFlags := 25, slot := 9, constantValue := 0 }, { name := "LOG2_BYTE_BIT_SIZE", type := .int, accessFlags := 26, slot := 10, constantValue := 0 }, { name := "T_BOOLEAN", type := .int, accessFlags := 25, slot := 11, constantValue := 0 }, { name := "T_CHAR", type := .int, accessFlags := 25, slot := 12, constantValue := 0 }, { name := "T_FLOAT", type := .int, accessFlags := 25, slot := 13, constantValue := 0 }, { name := "T_DOUBLE", type := .int, accessFlags := 25, slot := 14, constantValue := 0 }, { name := "T_BYTE", type := .int, accessFlags := 25, slot := 15, constantValue := 0 }, { name := "T_SHORT", type := .int, accessFlags := 25, slot := 16, constantValue := 0 }, { name := "T_INT", type := .int, accessFlags := 25, slot := 17, constantValue := 0 }, { name := "T_LONG", type := .int, accessFlags := 25, slot := 18, constantValue := 0 }, { name := "JLA", type := (.object "jdk/internal/access/JavaLangAccess"), accessFlags := 26, slot := 19, constantValue := 0 }, { name := "SOFT_MAX_ARRAY_LENGTH", type := .int, accessFlags := 25, slot := 20, constantValue := 0 }]
  methods := #[k16m0]
  instanceTypes := #[]
  staticTypes := #[(.object "jdk/internal/misc/Unsafe"), .boolean, .int, .int, .int, .int, .int, .int, .int, .int, .int, .int, .int, .int, .int, .int, .int, .int, .int, (.object "jdk/internal/access/JavaLangAccess"), .int]
  resolved := Array.replicate 378 none
  statics := none }

def pool17 : Array CpInfo := pool [(1, u "java/lang/Cloneable"), (0, .class_ 1), (0, u "java/lang/Object"), (0, .class_ 3)] 3

/-- java/lang/Cloneable -/
def k17 : Class := { plain "java/lang/Cloneable" (some 0) with
  accessFlags := 1537
  interfaces := #[]
  cf := some (fileOf pool17 2 #[] #[] 1537 4 #[] #[])
  fields := #[]
  methods := #[]
  instanceTypes := #[]
  staticTypes := #[]
  resolved := Array.replicate 8 none
  statics := none }

/-- the primitive byte -/
def k18 : Class := { plain "byte" none with kind := .primitive 'B', accessFlags := 0x411 }
/-- [B -/
def k19 : Class := { plain "[B" (some 0) with kind := .array 18 .byte, interfaces := #[17, 2], accessFlags := 1041 }

/-- the primitive char -/
def k20 : Class := { plain "char" none with kind := .primitive 'C', accessFlags := 0x411 }
/-- [C -/
def k21 : Class := { plain "[C" (some 0) with kind := .array 20 .char, interfaces := #[17, 2], accessFlags := 1041 }

/-- the primitive int -/
def k22 : Class := { plain "int" none with kind := .primitive 'I', accessFlags := 0x411 }
/-- [I -/
def k23 : Class := { plain "[I" (some 0) with kind := .array 22 .int, interfaces := #[17, 2], accessFlags := 1041 }

def heap : Heap := #[{ cls := 7, slots := #[.long 0, .int 1, .null, .int 0, .null, .int 0, .int 0], vm := .statics 7 },
  { cls := 10, slots := #[.ref 3, .ref 4, .ref 5, .ref 6, .ref 7, .ref 8, .ref 9, .null], vm := .statics 10 },
  { cls := 15, slots := #[.null, .null, .null], vm := .statics 15 },
  { cls := 10, slots := #[.null, .int 0, .int 0], vm := .none },
  { cls := 10, slots := #[.null, .int 1, .int 0], vm := .none },
  { cls := 10, slots := #[.null, .int 2, .int 0], vm := .none },
  { cls := 10, slots := #[.null, .int 3, .int 0], vm := .none },
  { cls := 10, slots := #[.null, .int 4, .int 0], vm := .none },
  { cls := 10, slots := #[.null, .int 5, .int 0], vm := .none },
  { cls := 10, slots := #[.null, .int 6, .int 0], vm := .none }]
def classes : Array Class := #[k0, k1, k2, k3, k4, k5, k6, k7, k8, k9, k10, k11, k12, k13, k14, k15, k16, k17, k18, k19, k20, k21, k22, k23]
def interned : List (Array UInt16 × Addr) := []
def slotsUsed : Nat := 39
def theMethod : MethodId := ⟨1, 3⟩
def args0 : Array Value := #[.int 5, .int 3, .int 4, .long 7, .long 8, .long 9]
def aboutOver (below : List Frame) : State where
  vm := { classes := classes, interned := interned.toArray }
  heap := heap
  slotsUsed := slotsUsed
  threads := #[{ frames := .invoking theMethod args0 :: below }]
def below0 : List Frame := [.native { method := ⟨0, 0⟩, args := #[] }]
def about1 : State := aboutOver below0
def p0 : Program := .bare "" "" ""
def e0 : Env := launch0.env 0 0 0
theorem w_frames : about1.frames = Frame.invoking theMethod args0 :: below0 := rfl
set_option maxRecDepth 65536 in
theorem w_args : argsFit about1.vm theMethod args0 = true := by decide +kernel
set_option maxRecDepth 65536 in
theorem w_heap : heapFits about1 = true := by decide +kernel
set_option maxRecDepth 65536 in
theorem w_runnable : about1.curStatus? = some .runnable := by decide +kernel
set_option maxRecDepth 65536 in
theorem w_alone : about1.alone = true := by decide +kernel
set_option maxRecDepth 65536 in
theorem w_named : about1.methodNamed? x = some theMethod := by decide +kernel
set_option maxRecDepth 65536 in
theorem w_hears : about1.hears theMethod below0 = true := by decide +kernel
set_option maxRecDepth 65536 in
theorem w_ripe : about1.ripe theMethod args0 below0 = true := by decide +kernel
theorem w_running : about1.status = .running := rfl
set_option maxRecDepth 65536 in
theorem w_room : about1.hasRoom e0.platform room_1 = true :=
  launch0.hasRoom_least _ room_1 (by decide +kernel) (by decide +kernel) (by decide +kernel) (by decide +kernel) (by decide +kernel) (by decide +kernel)
theorem allAtoms_all (ts : List Jvm.Cond) (a : Array Jvm.Value) (st : Jvm.State) : (allAtoms ts).before a st = ts.all (fun c => c.before a st) := by
  induction ts with
  | nil => rfl
  | cons c t ih =>
    show (Jvm.Cond.and c (allAtoms t)).before a st = _
    rw [Jvm.Cond.before_and, ih, List.all_cons]
def words1 : List Jvm.Cond := Jvm.Cond.code x code maxLocals ret :: tables_1
/-- a 'code' word, met by the world's own term for the bytes: nothing is compared byte by byte -/
theorem code_word {y : MethodName} {bytes : ByteArray} {mx : Nat} {rt : Option FieldType} {a : Array Value} {s : State} {m : MethodId} {meth : Method} {c : Code} (h1 : s.methodNamed? y = some m) (h2 : s.vm.method? m = some meth) (h3 : meth.code = some c) (h4 : c.code = bytes)
    (h5 : (c.maxLocals == mx && c.exceptionTable.isEmpty && decide (c.maxStack ≤ mostOperands) && decide (meth.sig.returnType = rt) && !meth.locks && decide (parseMethodDescriptor y.desc = some meth.sig)) = true) : (Jvm.Cond.code y bytes mx rt).before a s = true := by
  simp only [Bool.and_eq_true, beq_iff_eq, Bool.not_eq_true', decide_eq_true_eq] at h5
  obtain ⟨⟨⟨⟨⟨g1, g2⟩, g3⟩, g4⟩, g5⟩, g6⟩ := h5
  simp [Cond.before, Cond.holds, Cond.value, h1, h2, h3, h4, g1, g2, g3, g4, g5, g6]
def isCode : Jvm.Cond → Bool
  | .code _ _ _ _ => true
  | _ => false
theorem all_split {L : List Jvm.Cond} {P : Jvm.Cond → Bool} (h1 : L.all (fun c => isCode c || P c) = true) (h2 : ∀ c ∈ L.filter isCode, P c = true) : L.all P = true := by
  refine List.all_eq_true.mpr fun c hc => ?_
  have h := List.all_eq_true.mp h1 c hc
  rcases Bool.eq_false_or_eq_true (isCode c) with hi | hi
  · exact h2 c (List.mem_filter.mpr ⟨hc, hi⟩)
  · simpa [hi] using h
set_option maxRecDepth 65536 in
theorem w_c0 : (Jvm.Cond.code x code maxLocals ret).before args0 about1 = true := code_word (m := ⟨1, 3⟩) (meth := k1m3) (c := k1c3) (by decide +kernel) rfl rfl rfl (by decide +kernel)
set_option maxRecDepth 65536 in
theorem w_c1 : (Jvm.Cond.code ({ cls := "java/lang/String", name := "valueOf", desc := "(C)Ljava/lang/String;" } : Jvm.MethodName) jdk_42_method_139_code (1 : Nat) (Option.some (Jvm.ClassFile.FieldType.object "java/lang/String"))).before args0 about1 = true := code_word (m := ⟨7, 2⟩) (meth := k7m2) (c := k7c2) (by decide +kernel) rfl rfl rfl (by decide +kernel)
set_option maxRecDepth 65536 in
theorem w_c2 : (Jvm.Cond.code ({ cls := "java/lang/StringLatin1", name := "canEncode", desc := "(C)Z" } : Jvm.MethodName) jdk_43_method_3_code (1 : Nat) (Option.some Jvm.ClassFile.FieldType.boolean)).before args0 about1 = true := code_word (m := ⟨8, 1⟩) (meth := k8m1) (c := k8c1) (by decide +kernel) rfl rfl rfl (by decide +kernel)
set_option maxRecDepth 65536 in
theorem w_c3 : (Jvm.Cond.code ({ cls := "java/lang/StringLatin1", name := "toBytes", desc := "(C)[B" } : Jvm.MethodName) jdk_43_method_46_code (1 : Nat) (Option.some (Jvm.ClassFile.FieldType.array Jvm.ClassFile.FieldType.byte))).before args0 about1 = true := code_word (m := ⟨8, 2⟩) (meth := k8m2) (c := k8c2) (by decide +kernel) rfl rfl rfl (by decide +kernel)
set_option maxRecDepth 65536 in
theorem w_c4 : (Jvm.Cond.code ({ cls := "java/lang/String", name := "<init>", desc := "([BB)V" } : Jvm.MethodName) jdk_42_method_151_code (3 : Nat) (Option.none : Option Jvm.ClassFile.FieldType)).before args0 about1 = true := code_word (m := ⟨7, 4⟩) (meth := k7m4) (c := k7c4) (by decide +kernel) rfl rfl rfl (by decide +kernel)
set_option maxRecDepth 65536 in
theorem w_c5 : (Jvm.Cond.code ({ cls := "java/lang/Object", name := "<init>", desc := "()V" } : Jvm.MethodName) object_method_1_code (1 : Nat) (Option.none : Option Jvm.ClassFile.FieldType)).before args0 about1 = true := code_word (m := ⟨0, 0⟩) (meth := k0m0) (c := k0c0) (by decide +kernel) rfl rfl rfl (by decide +kernel)
set_option maxRecDepth 65536 in
theorem w_c6 : (Jvm.Cond.code ({ cls := "com/example/tillbridge/tillbridge/channel/LineIsRefundPinLaw", name := "standing", desc := "(I)Lcom/example/tillbridge/tillbridge/channel/Bill$Standing;" } : Jvm.MethodName) method_2_code (2 : Nat) (Option.some (Jvm.ClassFile.FieldType.object "com/example/tillbridge/tillbridge/channel/Bill$Standing"))).before args0 about1 = true := code_word (m := ⟨1, 1⟩) (meth := k1m1) (c := k1c1) (by decide +kernel) rfl rfl rfl (by decide +kernel)
set_option maxRecDepth 65536 in
theorem w_c7 : (Jvm.Cond.code ({ cls := "com/example/tillbridge/tillbridge/channel/Bill$Line", name := "<init>", desc := "(Ljava/lang/String;Ljava/lang/String;Ljava/lang/String;Lcom/example/tillbridge/tillbridge/channel/Bill$Standing;JJJ)V" } : Jvm.MethodName) prog_7_method_1_code (11 : Nat) (Option.none : Option Jvm.ClassFile.FieldType)).before args0 about1 = true := code_word (m := ⟨12, 0⟩) (meth := k12m0) (c := k12c0) (by decide +kernel) rfl rfl rfl (by decide +kernel)
set_option maxRecDepth 65536 in
theorem w_c8 : (Jvm.Cond.code ({ cls := "java/lang/Record", name := "<init>", desc := "()V" } : Jvm.MethodName) jdk_30_method_1_code (1 : Nat) (Option.none : Option Jvm.ClassFile.FieldType)).before args0 about1 = true := code_word (m := ⟨11, 0⟩) (meth := k11m0) (c := k11c0) (by decide +kernel) rfl rfl rfl (by decide +kernel)
set_option maxRecDepth 65536 in
theorem w_c9 : (Jvm.Cond.code ({ cls := "com/example/tillbridge/tillbridge/channel/Bill", name := "isLineAmount", desc := "(J)Z" } : Jvm.MethodName) prog_6_method_2_code (2 : Nat) (Option.some Jvm.ClassFile.FieldType.boolean)).before args0 about1 = true := code_word (m := ⟨13, 0⟩) (meth := k13m0) (c := k13c0) (by decide +kernel) rfl rfl rfl (by decide +kernel)
set_option maxRecDepth 65536 in
theorem w_c10 : (Jvm.Cond.code ({ cls := "com/example/tillbridge/tillbridge/channel/Bill$Line", name := "isRefund", desc := "()Z" } : Jvm.MethodName) prog_7_method_2_code (1 : Nat) (Option.some Jvm.ClassFile.FieldType.boolean)).before args0 about1 = true := code_word (m := ⟨12, 1⟩) (meth := k12m1) (c := k12c1) (by decide +kernel) rfl rfl rfl (by decide +kernel)
set_option maxRecDepth 65536 in
theorem w_c11 : (Jvm.Cond.code ({ cls := "com/example/tillbridge/tillbridge/channel/LineIsRefundPinLaw", name := "drawn", desc := "(II)Ljava/lang/String;" } : Jvm.MethodName) method_3_code (9 : Nat) (Option.some (Jvm.ClassFile.FieldType.object "java/lang/String"))).before args0 about1 = true := code_word (m := ⟨1, 2⟩) (meth := k1m2) (c := k1c2) (by decide +kernel) rfl rfl rfl (by decide +kernel)
set_option maxRecDepth 65536 in
theorem w_c12 : (Jvm.Cond.code ({ cls := "java/lang/String", name := "<init>", desc := "([C)V" } : Jvm.MethodName) jdk_42_method_3_code (2 : Nat) (Option.none : Option Jvm.ClassFile.FieldType)).before args0 about1 = true := code_word (m := ⟨7, 1⟩) (meth := k7m1) (c := k7c1) (by decide +kernel) rfl rfl rfl (by decide +kernel)
set_option maxRecDepth 65536 in
theorem w_c13 : (Jvm.Cond.code ({ cls := "java/lang/String", name := "<init>", desc := "([CIILjava/lang/Void;)V" } : Jvm.MethodName) jdk_42_method_149_code (6 : Nat) (Option.none : Option Jvm.ClassFile.FieldType)).before args0 about1 = true := code_word (m := ⟨7, 3⟩) (meth := k7m3) (c := k7c3) (by decide +kernel) rfl rfl rfl (by decide +kernel)
set_option maxRecDepth 65536 in
theorem w_c14 : (Jvm.Cond.code ({ cls := "java/lang/StringUTF16", name := "compress", desc := "([CII)[B" } : Jvm.MethodName) jdk_52_method_16_code (6 : Nat) (Option.some (Jvm.ClassFile.FieldType.array Jvm.ClassFile.FieldType.byte))).before args0 about1 = true := code_word (m := ⟨14, 2⟩) (meth := k14m2) (c := k14c2) (by decide +kernel) rfl rfl rfl (by decide +kernel)
set_option maxRecDepth 65536 in
theorem w_c15 : (Jvm.Cond.code ({ cls := "java/lang/StringUTF16", name := "compress", desc := "([CI[BII)I" } : Jvm.MethodName) jdk_52_method_21_code (7 : Nat) (Option.some Jvm.ClassFile.FieldType.int)).before args0 about1 = true := code_word (m := ⟨14, 3⟩) (meth := k14m3) (c := k14c3) (by decide +kernel) rfl rfl rfl (by decide +kernel)
set_option maxRecDepth 65536 in
theorem w_c16 : (Jvm.Cond.code ({ cls := "java/lang/StringUTF16", name := "coderFromArrayLen", desc := "([BI)B" } : Jvm.MethodName) jdk_52_method_15_code (2 : Nat) (Option.some Jvm.ClassFile.FieldType.byte)).before args0 about1 = true := code_word (m := ⟨14, 1⟩) (meth := k14m1) (c := k14c1) (by decide +kernel) rfl rfl rfl (by decide +kernel)
def codes1 : List Jvm.Cond := [Jvm.Cond.code x code maxLocals ret, Jvm.Cond.code ({ cls := "java/lang/String", name := "valueOf", desc := "(C)Ljava/lang/String;" } : Jvm.MethodName) jdk_42_method_139_code (1 : Nat) (Option.some (Jvm.ClassFile.FieldType.object "java/lang/String")), Jvm.Cond.code ({ cls := "java/lang/StringLatin1", name := "canEncode", desc := "(C)Z" } : Jvm.MethodName) jdk_43_method_3_code (1 : Nat) (Option.some Jvm.ClassFile.FieldType.boolean), Jvm.Cond.code ({ cls := "java/lang/StringLatin1", name := "toBytes", desc := "(C)[B" } : Jvm.MethodName) jdk_43_method_46_code (1 : Nat) (Option.some (Jvm.ClassFile.FieldType.array Jvm.ClassFile.FieldType.byte)), Jvm.Cond.code ({ cls := "java/lang/String", name := "<init>", desc := "([BB)V" } : Jvm.MethodName) jdk_42_method_151_code (3 : Nat) (Option.none : Option Jvm.ClassFile.FieldType), Jvm.Cond.code ({ cls := "java/lang/Object", name := "<init>", desc := "()V" } : Jvm.MethodName) object_method_1_code (1 : Nat) (Option.none : Option Jvm.ClassFile.FieldType), Jvm.Cond.code ({ cls := "com/example/tillbridge/tillbridge/channel/LineIsRefundPinLaw", name := "standing", desc := "(I)Lcom/example/tillbridge/tillbridge/channel/Bill$Standing;" } : Jvm.MethodName) method_2_code (2 : Nat) (Option.some (Jvm.ClassFile.FieldType.object "com/example/tillbridge/tillbridge/channel/Bill$Standing")), Jvm.Cond.code ({ cls := "com/example/tillbridge/tillbridge/channel/Bill$Line", name := "<init>", desc := "(Ljava/lang/String;Ljava/lang/String;Ljava/lang/String;Lcom/example/tillbridge/tillbridge/channel/Bill$Standing;JJJ)V" } : Jvm.MethodName) prog_7_method_1_code (11 : Nat) (Option.none : Option Jvm.ClassFile.FieldType), Jvm.Cond.code ({ cls := "java/lang/Record", name := "<init>", desc := "()V" } : Jvm.MethodName) jdk_30_method_1_code (1 : Nat) (Option.none : Option Jvm.ClassFile.FieldType), Jvm.Cond.code ({ cls := "com/example/tillbridge/tillbridge/channel/Bill", name := "isLineAmount", desc := "(J)Z" } : Jvm.MethodName) prog_6_method_2_code (2 : Nat) (Option.some Jvm.ClassFile.FieldType.boolean), Jvm.Cond.code ({ cls := "com/example/tillbridge/tillbridge/channel/Bill$Line", name := "isRefund", desc := "()Z" } : Jvm.MethodName) prog_7_method_2_code (1 : Nat) (Option.some Jvm.ClassFile.FieldType.boolean), Jvm.Cond.code ({ cls := "com/example/tillbridge/tillbridge/channel/LineIsRefundPinLaw", name := "drawn", desc := "(II)Ljava/lang/String;" } : Jvm.MethodName) method_3_code (9 : Nat) (Option.some (Jvm.ClassFile.FieldType.object "java/lang/String")), Jvm.Cond.code ({ cls := "java/lang/String", name := "<init>", desc := "([C)V" } : Jvm.MethodName) jdk_42_method_3_code (2 : Nat) (Option.none : Option Jvm.ClassFile.FieldType), Jvm.Cond.code ({ cls := "java/lang/String", name := "<init>", desc := "([CIILjava/lang/Void;)V" } : Jvm.MethodName) jdk_42_method_149_code (6 : Nat) (Option.none : Option Jvm.ClassFile.FieldType), Jvm.Cond.code ({ cls := "java/lang/StringUTF16", name := "compress", desc := "([CII)[B" } : Jvm.MethodName) jdk_52_method_16_code (6 : Nat) (Option.some (Jvm.ClassFile.FieldType.array Jvm.ClassFile.FieldType.byte)), Jvm.Cond.code ({ cls := "java/lang/StringUTF16", name := "compress", desc := "([CI[BII)I" } : Jvm.MethodName) jdk_52_method_21_code (7 : Nat) (Option.some Jvm.ClassFile.FieldType.int), Jvm.Cond.code ({ cls := "java/lang/StringUTF16", name := "coderFromArrayLen", desc := "([BI)B" } : Jvm.MethodName) jdk_52_method_15_code (2 : Nat) (Option.some Jvm.ClassFile.FieldType.byte)]
set_option maxRecDepth 65536 in
theorem codes_eq : words1.filter isCode = codes1 := rfl
theorem w_codes : ∀ c ∈ words1.filter isCode, c.before args0 about1 = true := by
  rw [codes_eq]
  intro c hc
  simp only [codes1, List.mem_cons, List.not_mem_nil, or_false] at hc
  rcases hc with rfl | rfl | rfl | rfl | rfl | rfl | rfl | rfl | rfl | rfl | rfl | rfl | rfl | rfl | rfl | rfl | rfl
  · exact w_c0
  · exact w_c1
  · exact w_c2
  · exact w_c3
  · exact w_c4
  · exact w_c5
  · exact w_c6
  · exact w_c7
  · exact w_c8
  · exact w_c9
  · exact w_c10
  · exact w_c11
  · exact w_c12
  · exact w_c13
  · exact w_c14
  · exact w_c15
  · exact w_c16
set_option maxRecDepth 65536 in
theorem w_t1 : (words1.take 24).all (fun c => isCode c || c.before args0 about1) = true := by decide +kernel
set_option maxRecDepth 65536 in
theorem w_t2 : ((words1.drop 24).take 24).all (fun c => isCode c || c.before args0 about1) = true := by decide +kernel
set_option maxRecDepth 65536 in
theorem w_t3 : (((words1.drop 24).drop 24).take 24).all (fun c => isCode c || c.before args0 about1) = true := by decide +kernel
set_option maxRecDepth 65536 in
theorem w_t4 : ((((words1.drop 24).drop 24).drop 24).take 24).all (fun c => isCode c || c.before args0 about1) = true := by decide +kernel
set_option maxRecDepth 65536 in
theorem w_t5 : ((((words1.drop 24).drop 24).drop 24).drop 24).all (fun c => isCode c || c.before args0 about1) = true := by decide +kernel
theorem w_tables : (allAtoms (Jvm.Cond.code x code maxLocals ret :: tables_1)).before args0 about1 = true := by
  rw [allAtoms_all]
  show words1.all (fun c => c.before args0 about1) = true
  refine all_split ?_ w_codes
  rw [← List.take_append_drop 24 words1, List.all_append, w_t1, ← List.take_append_drop 24 (words1.drop 24), List.all_append, w_t2, ← List.take_append_drop 24 ((words1.drop 24).drop 24), List.all_append, w_t3, ← List.take_append_drop 24 (((words1.drop 24).drop 24).drop 24), List.all_append, w_t4, w_t5]
  rfl
set_option maxRecDepth 65536 in
theorem w_rest : rest_1_c.before args0 about1 = true := by decide +kernel
set_option maxRecDepth 65536 in
theorem w_case : (Jvm.Cond.and given_1 narrow_1).before args0 about1 = true := by decide +kernel
set_option maxRecDepth 65536 in
theorem w_consts : constsHeld consts_1 about1 := Jvm.Lit.constsHeldB_iff.mp (by decide +kernel)
theorem w_applies : (headSpec (Jvm.Cond.code x code maxLocals ret :: tables_1) room_1).applies x e0.platform about1 = true :=
  (Spec.applies_iff w_frames).mpr ⟨w_running, w_runnable, w_alone, w_named, w_hears, w_ripe, w_room, w_tables⟩
theorem atStart : AtStart classFile x code maxLocals ret World_1 tables_1 room_1 Calls_1 rest_1 Pre_1 launch0 p0 e0 about1 theMethod args0 below0 :=
  ⟨lists_1, trivial, launch0.admits_env _ _ _, launch0.least_env, fairChoices_fair.cas, fairChoices_fair.clock, w_frames, w_args, w_heap, w_applies, ⟨w_consts, trivial⟩, w_rest, w_case⟩
end start1
theorem witness_1 : WitnessClaimed_1 := ⟨start1.p0, start1.e0, start1.about1, start1.theMethod, start1.args0, start1.below0, start1.atStart⟩
end Jvm.Pilot.@@N@@
