import JvmDerived
import JvmDerived.Pilot.@@N@@Statement
import JvmDerived.Pilot.@@N@@Code
set_option linter.unusedVariables false
set_option linter.unusedSimpArgs false
namespace Jvm.Pilot.@@N@@
open Jvm Jvm.ClassFile Sem Op Lib Jvm.Free Jvm.Stand Jvm.LawKit Jvm.RoadKit Bundle Jvm.Pilot.@@N@@.Jvm.D
section Own
variable {p : Program} {l : Launch} {e : Env} {R : Room} {s : State} {m : MethodId} {args : Array Value} {below : List Frame} {meth : Method} {c : Code} {T : State} {locs : List Loc} {cells slots : Nat} {Z : State} {a0 : Array Value} {h : Heap} {Q : Option Value → Heap → List Loc → Prop} {C S : Nat} {u u' : State} {F : Outcome → State → List Loc → Prop}
/-- from u the invocation comes to its end, and Q holds of what it returns, of the heap and of the places written -/
def ownFin (p : Program) (e : Env) (below : List Frame) (F : Outcome → State → List Loc → Prop) (Q : Option Value → Heap → List Loc → Prop) (u : State) : Prop :=
  ∃ t o, Steps p.tables e below u t ∧ t.status = .running ∧ Ended t below o ∧ ∃ v L, o = .returned v ∧ Q v t.heap L ∧ F o t L
/-- how it ends: at most C new cells of S slots, the tables warmer, nothing old written but at the places L -/
def ownFE (s : State) (C S : Nat) : Outcome → State → List Loc → Prop := fun o t L => FrameEnd s o t L C S
theorem ownVia (f : ∀ t, Steps p.tables e below u' t → Steps p.tables e below u t) (k : ownFin p e below F Q u') : ownFin p e below F Q u := by
  obtain ⟨t, o, h1, r⟩ := k
  exact ⟨t, o, f t h1, r⟩
theorem ownRet (X : Stand p l e R s m args below meth c T locs cells slots) (hlk : meth.locks = false) {v : Option Value} (hv : meth.sig.returnType = none → v = none)
    (f : ∀ fs, (∀ (f : JFrame) (acts : List Action), f.method = m → f.locked = none → f.entered = [] → (doReturn e (T.setTop f) acts v).1 = T.setFrames fs) → Steps p.tables e below u (T.setFrames fs))
    (hC : cells ≤ C) (hS : slots ≤ S) (hQ : Q v T.heap locs) : ownFin p e below (ownFE s C S) Q u := by
  obtain ⟨fs, hr, hrun, hended, hW, hsame⟩ := X.leave (v := v) hv hlk
  exact ⟨_, _, f fs hr, hrun, hended, v, _, rfl, hQ, ⟨_, rfl⟩, hW, hsame.mono hC hS⟩
theorem ownRetI (X : Stand p l e R s m args below meth c T locs cells slots) (hx : p.tables.exec = Jvm.exec) (hlk : meth.locks = false) (hret : meth.sig.returnType = some .int) {pc : Nat} {Ls : Array Slot} {z : Int32} {rest : List Value} (hd : decode c.code pc = .ok (.ireturn, 1)) (hC : cells ≤ C) (hS : slots ≤ S) (hQ : Q (some (.int z)) T.heap locs) : ownFin p e below (ownFE s C S) Q (T.setTop (mkF m pc Ls (.int z :: rest))) :=
  ownRet X hlk (v := some (.int z)) (fun q => by rw [hret] at q; cases q) (fun fs hr => retOut X hx hret rfl (Or.inl ⟨rfl, Or.inl rfl, z, rfl⟩) hd hr) hC hS hQ
theorem ownRetZ (X : Stand p l e R s m args below meth c T locs cells slots) (hx : p.tables.exec = Jvm.exec) (hlk : meth.locks = false) (hret : meth.sig.returnType = some .boolean) {pc : Nat} {Ls : Array Slot} {z : Int32} {rest : List Value} (hd : decode c.code pc = .ok (.ireturn, 1)) (hC : cells ≤ C) (hS : slots ≤ S) (hz : z = 0 ∨ z = 1) (hQ : Q (some (.int z)) T.heap locs) : ownFin p e below (ownFE s C S) Q (T.setTop (mkF m pc Ls (.int z :: rest))) :=
  ownRet X hlk (v := some (.int z)) (fun q => by rw [hret] at q; cases q) (fun fs hr => retOut X hx hret (by rcases hz with rfl | rfl <;> rfl) (Or.inl ⟨rfl, Or.inr (Or.inl rfl), z, rfl⟩) hd hr) hC hS hQ
theorem ownRetJ (X : Stand p l e R s m args below meth c T locs cells slots) (hx : p.tables.exec = Jvm.exec) (hlk : meth.locks = false) (hret : meth.sig.returnType = some .long) {pc : Nat} {Ls : Array Slot} {z : Int64} {rest : List Value} (hd : decode c.code pc = .ok (.lreturn, 1)) (hC : cells ≤ C) (hS : slots ≤ S) (hQ : Q (some (.long z)) T.heap locs) : ownFin p e below (ownFE s C S) Q (T.setTop (mkF m pc Ls (.long z :: rest))) :=
  ownRet X hlk (v := some (.long z)) (fun q => by rw [hret] at q; cases q) (fun fs hr => retOut X hx hret rfl (Or.inr (Or.inl ⟨rfl, rfl, z, rfl⟩)) hd hr) hC hS hQ
theorem ownRetA (X : Stand p l e R s m args below meth c T locs cells slots) (hx : p.tables.exec = Jvm.exec) (hlk : meth.locks = false) {ty : FieldType} (hret : meth.sig.returnType = some ty) (hty : ty.isReference = true) {pc : Nat} {Ls : Array Slot} {a : Addr} {rest : List Value} (hd : decode c.code pc = .ok (.areturn, 1)) (hC : cells ≤ C) (hS : slots ≤ S) (hQ : Q (some (.ref a)) T.heap locs) : ownFin p e below (ownFE s C S) Q (T.setTop (mkF m pc Ls (.ref a :: rest))) :=
  ownRet X hlk (v := some (.ref a)) (fun q => by rw [hret] at q; cases q) (fun fs hr => retOut X hx hret (by cases ty <;> first | rfl | cases hty) (Or.inr (Or.inr (Or.inr (Or.inr ⟨rfl, hty, rfl⟩)))) hd hr) hC hS hQ
theorem ownRetV (X : Stand p l e R s m args below meth c T locs cells slots) (hx : p.tables.exec = Jvm.exec) (hlk : meth.locks = false) (hret : meth.sig.returnType = none) {pc : Nat} {Ls : Array Slot} (hd : decode c.code pc = .ok (.return_, 1)) (hC : cells ≤ C) (hS : slots ≤ S) (hQ : Q none T.heap locs) : ownFin p e below (ownFE s C S) Q (T.setTop (mkF m pc Ls [])) :=
  ownRet X hlk (v := none) (fun _ => rfl) (fun fs hr => X.returnOut hx hret hd hr) hC hS hQ
/-- the contract of a method at given arguments and a given heap -/
abbrev ownMet (l : Launch) (Z : State) (y : MethodName) (bytes : ByteArray) (maxL : Nat) (ret : Option FieldType) (ws : List Jvm.Cond) (rm : Room) (as' : Array Value) (h0 : Heap) (Q : Option Value → Heap → List Loc → Prop) : Prop :=
  MetFree l y (head1 (Jvm.Cond.code y bytes maxL ret :: ws) rm) (fun a U => a = as' ∧ Z.Warmed39 U.vm ∧ U.heap = h0) (fun _ _ _ _ _ => True) (fun _ U o U' => ∃ v L, o = .returned v ∧ Q v U'.heap L ∧ FrameEnd U o U' L rm.cells rm.slots)
theorem ownBody {y : MethodName} {bytes : ByteArray} {maxL : Nat} {ret : Option FieldType} {ws : List Jvm.Cond} {rm : Room} {as' : Array Value} {h0 : Heap} (hpl : plainFor y = true)
    (H : ∀ (p : Program) (e : Env) (s : State) (m : MethodId) (below : List Frame) (meth : Method) (c : Code) (T : State), p.tables.exec = Jvm.exec → c.code = bytes → c.maxLocals = maxL → meth.sig.returnType = ret → meth.locks = false → Z.Warmed39 s.vm → s.vm.findClass y.cls = some m.cls → meth.name = y.name →
      Stand p l e rm s m as' below meth c T [] 0 0 → T.heap = h0 → ownFin p e below (ownFE s rm.cells rm.slots) Q (T.setTop (entryFrame m as' maxL))) : ownMet l Z y bytes maxL ret ws rm as' h0 Q := by
  refine MetFree.of_bodySF hpl hisR ?_
  intro p e s m args below meth c s₁ Bd hml0 hP hK
  obtain ⟨rfl, hZ, hh⟩ := hP
  exact H p e s m below meth c s₁ Bd.exec Bd.bytes hml0 Bd.returns Bd.notSynchronized hZ (findClass_of_methodNamed Bd.named) (name_of_methodNamed Bd.named Bd.method).1 (Stand.of_body Bd) (by rw [← hh, Bd.state]; rfl)
theorem ownCallS {own : String} {index : Nat} {y : MethodName} {bytes : ByteArray} {maxL : Nat} {ret : Option FieldType} {rm : Room} {as' : Array Value} {Q' : Option Value → Heap → List Loc → Prop}
    (X : Stand p l e R s m args below meth c T locs cells slots) (hx : p.tables.exec = Jvm.exec) (hZ : Z.Warmed39 s.vm) (hown : s.vm.findClass own = some m.cls)
    (w1 : (Jvm.Cond.methodLink own index y).before a0 Z = true) (w2 : (Jvm.Cond.static y).before a0 Z = true) (w3 : (Jvm.Cond.initialized y.cls).before a0 Z = true) (w4 : (Jvm.Cond.code y bytes maxL ret).before a0 Z = true)
    (hy : y.cls ≠ "java/lang/invoke/MethodHandle" ∧ y.cls ≠ "java/lang/invoke/VarHandle") (eT : T.heap = h) (hM : ownMet l Z y bytes maxL ret [] rm as' h Q')
    {pc : Nat} {Ls : Array Slot} {st : List Value} (hsz : Ls.size = c.maxLocals) (argsL rest : List Value) (hlen : ∀ sig, parseMethodDescriptor y.desc = some sig → argsL.length = sig.parameters.length)
    (hst : st = argsL.reverse ++ rest) (has : argsL.toArray = as') (W : Nat) (hW : (rest.map fun v => v.category).sum = W) (hd : decode c.code pc = .ok (.invokestatic index, 3))
    (hfr : rm.frames + 1 ≤ R.frames) (hlo : W + (maxL + 11) + rm.locals ≤ R.locals) (hce : cells + rm.cells ≤ R.cells) (hsl : slots + rm.slots ≤ R.slots)
    (K : ∀ v T' L', Stand p l e R s m args below meth c T' (locs ++ L') (cells + rm.cells) (slots + rm.slots) → Q' v T'.heap L' → ownFin p e below F Q (T'.setTop (mkF m (pc + 3) Ls (v.toList ++ rest)))) :
    ownFin p e below F Q (T.setTop (mkF m pc Ls st)) := by
  obtain ⟨v, _, ⟨T2, L2, k2, n2⟩, -, X2, ⟨Lc2, hQ2, l2, y2, z2⟩, st2⟩ := Jvm.LawKit.callS X hx (y := y) hown (mvT hZ w1) (mvT hZ w2) (mvT hZ w3) (mvT hZ w4) hy (backOf (W := W) hM hZ w4 w3 hfr hlo) (g := mkF m pc Ls st) rfl hsz (argsL := argsL) (rest := rest) hlen hst (by show 2 * 0 + _ ≤ _; omega) hd (fun _ _ => ⟨has, eT, hce, hsl⟩)
  dsimp only [Pt.U, Pt.locs, Pt.cells, Pt.slots] at X2 l2 y2 z2 st2 hQ2
  subst l2 y2 z2
  exact ownVia st2 (K v T2 Lc2 X2 hQ2)
theorem ownCallN {own : String} {index : Nat} {y : MethodName} {bytes : ByteArray} {maxL : Nat} {rm : Room} {as' : Array Value} {Q' : Option Value → Heap → List Loc → Prop}
    (X : Stand p l e R s m args below meth c T locs cells slots) (hx : p.tables.exec = Jvm.exec) (hZ : Z.Warmed39 s.vm) (hown : s.vm.findClass own = some m.cls) (hy1 : y.name = "<init>")
    (w1 : (Jvm.Cond.methodLink own index y).before a0 Z = true) (w2 : (Jvm.Cond.instanceMethod y).before a0 Z = true) (w3 : (Jvm.Cond.initialized y.cls).before a0 Z = true) (w4 : (Jvm.Cond.code y bytes maxL none).before a0 Z = true)
    (hy : y.cls ≠ "java/lang/invoke/MethodHandle" ∧ y.cls ≠ "java/lang/invoke/VarHandle") (eT : T.heap = h) (hM : ownMet l Z y bytes maxL none [] rm as' h Q')
    {pc : Nat} {Ls : Array Slot} {st : List Value} (hsz : Ls.size = c.maxLocals) (a : Addr) (argsL rest : List Value) (hlen : ∀ sig, parseMethodDescriptor y.desc = some sig → argsL.length = sig.parameters.length)
    (hst : st = argsL.reverse ++ .ref a :: rest) (has : (Value.ref a :: argsL).toArray = as') (W : Nat) (hW : (rest.map fun v => v.category).sum = W) (hd : decode c.code pc = .ok (.invokespecial index, 3))
    (hfr : rm.frames + 1 ≤ R.frames) (hlo : W + (maxL + 11) + rm.locals ≤ R.locals) (hce : cells + rm.cells ≤ R.cells) (hsl : slots + rm.slots ≤ R.slots)
    (K : ∀ v T' L', Stand p l e R s m args below meth c T' (locs ++ L') (cells + rm.cells) (slots + rm.slots) → Q' v T'.heap L' → ownFin p e below F Q (T'.setTop (mkF m (pc + 3) Ls (v.toList ++ rest)))) :
    ownFin p e below F Q (T.setTop (mkF m pc Ls st)) := by
  obtain ⟨v, _, ⟨T2, L2, k2, n2⟩, -, X2, ⟨Lc2, hQ2, l2, y2, z2⟩, st2⟩ := X.specialBack hx (y := y) hy1 hown (mvT hZ w1) (mvT hZ w2) (mvT hZ w4) hy (backOf (W := W) hM hZ w4 w3 hfr hlo) (g := mkF m pc Ls st) rfl hsz (Steps.refl _) (a := a) (argsL := argsL) (rest := rest) hlen hst (by show 2 * 0 + _ ≤ _; omega) hd (fun _ _ => ⟨has, eT, hce, hsl⟩)
  dsimp only [Pt.U, Pt.locs, Pt.cells, Pt.slots] at X2 l2 y2 z2 st2 hQ2
  subst l2 y2 z2
  exact ownVia (fun _ k => st2.trans k) (K v T2 Lc2 X2 hQ2)
theorem ownCallV {own C' : String} {index : Nat} {y z : MethodName} {bytes : ByteArray} {maxL : Nat} {ret : Option FieldType} {rm : Room} {as' : Array Value} {Q' : Option Value → Heap → List Loc → Prop}
    (X : Stand p l e R s m args below meth c T locs cells slots) (hx : p.tables.exec = Jvm.exec) (hZ : Z.Warmed39 s.vm) (hown : s.vm.findClass own = some m.cls)
    (w1 : (Jvm.Cond.methodLink own index y).before a0 Z = true) (w2 : (Jvm.Cond.declares y).before a0 Z = true) (w5 : (Jvm.Cond.selects y.cls y y).before a0 Z = true) (w6 : (Jvm.Cond.selects C' y z).before a0 Z = true) (w7 : (Jvm.Cond.instanceMethod z).before a0 Z = true) (w3 : (Jvm.Cond.initialized z.cls).before a0 Z = true) (w4 : (Jvm.Cond.code z bytes maxL ret).before a0 Z = true)
    (hy : y.cls ≠ "java/lang/invoke/MethodHandle" ∧ y.cls ≠ "java/lang/invoke/VarHandle") (eT : T.heap = h) {a : Addr} (E : Exa Z h a C') (hM : ownMet l Z z bytes maxL ret [] rm as' h Q')
    {pc : Nat} {Ls : Array Slot} {st : List Value} (hsz : Ls.size = c.maxLocals) (argsL rest : List Value) (hlen : ∀ sig, parseMethodDescriptor y.desc = some sig → argsL.length = sig.parameters.length)
    (hst : st = argsL.reverse ++ .ref a :: rest) (has : (Value.ref a :: argsL).toArray = as') (W : Nat) (hW : (rest.map fun v => v.category).sum = W) (hd : decode c.code pc = .ok (.invokevirtual index, 3))
    (hfr : rm.frames + 1 ≤ R.frames) (hlo : W + (maxL + 11) + rm.locals ≤ R.locals) (hce : cells + rm.cells ≤ R.cells) (hsl : slots + rm.slots ≤ R.slots)
    (K : ∀ v T' L', Stand p l e R s m args below meth c T' (locs ++ L') (cells + rm.cells) (slots + rm.slots) → Q' v T'.heap L' → ownFin p e below F Q (T'.setTop (mkF m (pc + 3) Ls (v.toList ++ rest)))) :
    ownFin p e below F Q (T.setTop (mkF m pc Ls st)) := by
  obtain ⟨cq, kq, qa, qb, qc⟩ := isOf hZ eT E
  obtain ⟨v, _, ⟨T2, L2, k2, n2⟩, -, X2, ⟨Lc2, hQ2, l2, y2, z2⟩, st2⟩ := X.virtualBack hx (y := y) (z := z) hown (mvT hZ w1) (mvT hZ w2) (notFace_of_selects (args := #[]) (mvT hZ w5)) (mvT hZ w6) (mvT hZ w7) hy (backOf (W := W) hM hZ w4 w3 hfr hlo) qa qc (g := mkF m pc Ls st) rfl hsz (Steps.refl _) (argsL := argsL) (rest := rest) hlen hst (by show 2 * 0 + _ ≤ _; omega) hd (fun _ _ => ⟨has, eT, hce, hsl⟩)
  dsimp only [Pt.U, Pt.locs, Pt.cells, Pt.slots] at X2 l2 y2 z2 st2 hQ2
  subst l2 y2 z2
  exact ownVia (fun _ k => st2.trans k) (K v T2 Lc2 X2 hQ2)
theorem ownLen {a : Addr} {k : ClassId} {ty : FieldType} {z : Int32} {vs : List Value} {dv : Value} (X : Stand p l e R s m args below meth c T locs cells slots) (hx : p.tables.exec = Jvm.exec) (hZ : Z.Warmed39 s.vm) (eT : T.heap = h) (A : Arv Z h a k ty z vs dv) {pc : Nat} {Ls : Array Slot} {rest : List Value} (hd : decode c.code pc = .ok (.arraylength, 1))
    (K : ownFin p e below F Q (T.setTop (mkF m (pc + 1) Ls (.int z :: rest)))) : ownFin p e below F Q (T.setTop (mkF m pc Ls (.ref a :: rest))) := by
  obtain ⟨cl, Ar, -, Sz, Nz, -, -⟩ := A
  rw [← len_of Sz Nz] at K
  exact ownVia (fun t k => X.arraylength hx (by rw [eT]; exact Ar.1) (State.isArrayOf_alike hZ.alike Ar.2.1) (g := mkF m pc Ls (.ref a :: rest)) rfl rfl hd t k) K
theorem ownBaload {a : Addr} {k : ClassId} {z j : Int32} {vs : List Value} {dv v : Value} (X : Stand p l e R s m args below meth c T locs cells slots) (hx : p.tables.exec = Jvm.exec) (hZ : Z.Warmed39 s.vm) (eT : T.heap = h) (A : Arv Z h a k .byte z vs dv) (hj : ¬ j < 0 ∧ j < z) (hv : vs.getD j.toNatClampNeg dv = v) {pc : Nat} {Ls : Array Slot} {rest : List Value} (hd : decode c.code pc = .ok (.baload, 1))
    (K : ownFin p e below F Q (T.setTop (mkF m (pc + 1) Ls (v :: rest)))) : ownFin p e below F Q (T.setTop (mkF m pc Ls (.int j :: .ref a :: rest))) := by
  obtain ⟨cl, Ar, -, Sz, Nz, H, -⟩ := A
  have hin := inb_of Sz hj
  exact ownVia (fun t k => X.baloadBytes hx (by rw [eT]; exact Ar.1) (State.isArrayOf_alike hZ.alike Ar.2.1) Ar.2.2 hin (H.at hin hv) (g := mkF m pc Ls (.int j :: .ref a :: rest)) rfl rfl hd t k) K
theorem ownIaload {a : Addr} {k : ClassId} {z j : Int32} {vs : List Value} {dv v : Value} (X : Stand p l e R s m args below meth c T locs cells slots) (hx : p.tables.exec = Jvm.exec) (hZ : Z.Warmed39 s.vm) (eT : T.heap = h) (A : Arv Z h a k .int z vs dv) (hj : ¬ j < 0 ∧ j < z) (hv : vs.getD j.toNatClampNeg dv = v) {pc : Nat} {Ls : Array Slot} {rest : List Value} (hd : decode c.code pc = .ok (.iaload, 1))
    (K : ownFin p e below F Q (T.setTop (mkF m (pc + 1) Ls (v :: rest)))) : ownFin p e below F Q (T.setTop (mkF m pc Ls (.int j :: .ref a :: rest))) := by
  obtain ⟨cl, Ar, -, Sz, Nz, H, -⟩ := A
  have hin := inb_of Sz hj
  exact ownVia (fun t k => X.iaload hx (by rw [eT]; exact Ar.1) (State.isArrayOf_alike hZ.alike Ar.2.1) Ar.2.2 hin (H.at hin hv) (g := mkF m pc Ls (.int j :: .ref a :: rest)) rfl rfl hd t k) K
theorem ownLaload {a : Addr} {k : ClassId} {z j : Int32} {vs : List Value} {dv v : Value} (X : Stand p l e R s m args below meth c T locs cells slots) (hx : p.tables.exec = Jvm.exec) (hZ : Z.Warmed39 s.vm) (eT : T.heap = h) (A : Arv Z h a k .long z vs dv) (hj : ¬ j < 0 ∧ j < z) (hv : vs.getD j.toNatClampNeg dv = v) {pc : Nat} {Ls : Array Slot} {rest : List Value} (hd : decode c.code pc = .ok (.laload, 1))
    (K : ownFin p e below F Q (T.setTop (mkF m (pc + 1) Ls (v :: rest)))) : ownFin p e below F Q (T.setTop (mkF m pc Ls (.int j :: .ref a :: rest))) := by
  obtain ⟨cl, Ar, -, Sz, Nz, H, -⟩ := A
  have hin := inb_of Sz hj
  exact ownVia (fun t k => X.laload hx (by rw [eT]; exact Ar.1) (State.isArrayOf_alike hZ.alike Ar.2.1) Ar.2.2 hin (H.at hin hv) (g := mkF m pc Ls (.int j :: .ref a :: rest)) rfl rfl hd t k) K
theorem ownBastore {a : Addr} {k : ClassId} {z j x : Int32} {vs : List Value} {dv : Value} {n0 : Nat} (X : Stand p l e R s m args below meth c T locs cells slots) (hx : p.tables.exec = Jvm.exec) (hZ : Z.Warmed39 s.vm) (eT : T.heap = h) (A : Arv Z h a k .byte z vs dv) (hj : ¬ j < 0 ∧ j < z) (i : Nat) (hi : j.toNatClampNeg = i) (hl : i < vs.length) (N : Fr n0 locs) (ge : n0 ≤ a) {pc : Nat} {Ls : Array Slot} {rest : List Value} (hd : decode c.code pc = .ok (.bastore, 1))
    (K : ∀ T' h' L', Stand p l e R s m args below meth c T' L' cells slots → T'.heap = h' → Fr n0 L' → Wr h h' a i (.int (nar .byte x)) → Arv Z h' a k .byte z (vs.set i (.int (nar .byte x))) dv → ownFin p e below F Q (T'.setTop (mkF m (pc + 1) Ls rest))) :
    ownFin p e below F Q (T.setTop (mkF m pc Ls (.int x :: .int j :: .ref a :: rest))) := by
  obtain ⟨cl, Ar, q1, Sz, Nz, H, G⟩ := A
  obtain ⟨T', h', X', e', W, st⟩ := stB X hx hZ eT Ar (j := j) (x := x) (inb_of Sz hj) (g := mkF m pc Ls (.int x :: .int j :: .ref a :: rest)) rfl rfl hd
  have N' := Fr.snoc X' N ge
  have A' := Arv.set Ar q1 Sz Nz H G (fits_nar_byte x) W i hi hl
  rw [hi] at W
  exact ownVia st (K T' h' _ X' e' N' W A')
theorem ownIastore {a : Addr} {k : ClassId} {z j x : Int32} {vs : List Value} {dv : Value} {n0 : Nat} (X : Stand p l e R s m args below meth c T locs cells slots) (hx : p.tables.exec = Jvm.exec) (hZ : Z.Warmed39 s.vm) (eT : T.heap = h) (A : Arv Z h a k .int z vs dv) (hj : ¬ j < 0 ∧ j < z) (i : Nat) (hi : j.toNatClampNeg = i) (hl : i < vs.length) (N : Fr n0 locs) (ge : n0 ≤ a) {pc : Nat} {Ls : Array Slot} {rest : List Value} (hd : decode c.code pc = .ok (.iastore, 1))
    (K : ∀ T' h' L', Stand p l e R s m args below meth c T' L' cells slots → T'.heap = h' → Fr n0 L' → Wr h h' a i (.int x) → Arv Z h' a k .int z (vs.set i (.int x)) dv → ownFin p e below F Q (T'.setTop (mkF m (pc + 1) Ls rest))) :
    ownFin p e below F Q (T.setTop (mkF m pc Ls (.int x :: .int j :: .ref a :: rest))) := by
  obtain ⟨cl, Ar, q1, Sz, Nz, H, G⟩ := A
  obtain ⟨T', h', X', e', W, st⟩ := stI X hx hZ eT Ar (j := j) (x := x) (inb_of Sz hj) (g := mkF m pc Ls (.int x :: .int j :: .ref a :: rest)) rfl rfl hd
  have N' := Fr.snoc X' N ge
  have A' := Arv.set Ar q1 Sz Nz H G rfl W i hi hl
  rw [hi] at W
  exact ownVia st (K T' h' _ X' e' N' W A')
theorem ownLastore {a : Addr} {k : ClassId} {z j : Int32} {x : Int64} {vs : List Value} {dv : Value} {n0 : Nat} (X : Stand p l e R s m args below meth c T locs cells slots) (hx : p.tables.exec = Jvm.exec) (hZ : Z.Warmed39 s.vm) (eT : T.heap = h) (A : Arv Z h a k .long z vs dv) (hj : ¬ j < 0 ∧ j < z) (i : Nat) (hi : j.toNatClampNeg = i) (hl : i < vs.length) (N : Fr n0 locs) (ge : n0 ≤ a) {pc : Nat} {Ls : Array Slot} {rest : List Value} (hd : decode c.code pc = .ok (.lastore, 1))
    (K : ∀ T' h' L', Stand p l e R s m args below meth c T' L' cells slots → T'.heap = h' → Fr n0 L' → Wr h h' a i (.long x) → Arv Z h' a k .long z (vs.set i (.long x)) dv → ownFin p e below F Q (T'.setTop (mkF m (pc + 1) Ls rest))) :
    ownFin p e below F Q (T.setTop (mkF m pc Ls (.long x :: .int j :: .ref a :: rest))) := by
  obtain ⟨cl, Ar, q1, Sz, Nz, H, G⟩ := A
  obtain ⟨T', h', X', e', W, st⟩ := stJ X hx hZ eT Ar (j := j) (x := x) (inb_of Sz hj) (g := mkF m pc Ls (.long x :: .int j :: .ref a :: rest)) rfl rfl hd
  have N' := Fr.snoc X' N ge
  have A' := Arv.set Ar q1 Sz Nz H G rfl W i hi hl
  rw [hi] at W
  exact ownVia st (K T' h' _ X' e' N' W A')
theorem ownNewP {aty : ArrayType} {n : Int32} (X : Stand p l e R s m args below meth c T locs cells slots) (hx : p.tables.exec = Jvm.exec) (hZ : Z.Warmed39 s.vm) (w : (Jvm.Cond.arrayClass (newarray.typeOf aty)).before a0 Z = true) (eT : T.heap = h) (ad : String) (had : "[" ++ (newarray.typeOf aty).toString = ad) (hn : ¬ n < 0) (N : Nat) (hN : n.toNatClampNeg = N) (cap : Nat) (hcap : N ≤ cap) (hb : cap * 8 ≤ 536870912) (hc : cells + 1 ≤ R.cells) (hl : slots + cap ≤ R.slots)
    {pc : Nat} {Ls : Array Slot} {rest : List Value} (hd : decode c.code pc = .ok (.newarray aty, 2))
    (K : ∀ T' h' k a, a = h.size → Stand p l e R s m args below meth c T' locs (cells + 1) (slots + cap) → T'.heap = h' → Ext h h' → Arv Z h' a k (newarray.typeOf aty) n (List.replicate N (defaultValue (newarray.typeOf aty))) (defaultValue (newarray.typeOf aty)) → Exa Z h' a ad → ownFin p e below F Q (T'.setTop (mkF m (pc + 2) Ls (.ref a :: rest)))) :
    ownFin p e below F Q (T.setTop (mkF m pc Ls (.int n :: rest))) := by
  obtain ⟨T', h', k, X', e', E, A, Ex, st⟩ := newPE X hx hZ w eT (g := mkF m pc Ls (.int n :: rest)) rfl hd rfl hn (cap := cap) (by rw [hN]; exact hcap) hb hc hl had
  exact ownVia st (K T' h' k _ rfl X' e' E ((Arv.new A hn).pad (pad_rep [] _ _)) Ex)
theorem ownClone {own : String} {index : Nat} {a : Addr} {k : ClassId} {ty : FieldType} {z : Int32} {vs : List Value} {dv : Value} {ad : String} (X : Stand p l e R s m args below meth c T locs cells slots) (hx : p.tables.exec = Jvm.exec) (hZ : Z.Warmed39 s.vm) (hown : s.vm.findClass own = some m.cls)
    (w1 : (Jvm.Cond.methodLink own index ⟨ad, "clone", "()Ljava/lang/Object;"⟩).before a0 Z = true) (w2 : (Jvm.Cond.sameMethod ad "java/lang/Object" "clone" "()Ljava/lang/Object;").before a0 Z = true) (w3 : (Jvm.Cond.native ⟨"java/lang/Object", "clone", "()Ljava/lang/Object;"⟩).before a0 Z = true)
    (w4 : (Jvm.Cond.instanceMethod ⟨"java/lang/Object", "clone", "()Ljava/lang/Object;"⟩).before a0 Z = true) (w5 : (Jvm.Cond.selects ad ⟨ad, "clone", "()Ljava/lang/Object;"⟩ ⟨"java/lang/Object", "clone", "()Ljava/lang/Object;"⟩).before a0 Z = true) (w6 : (Jvm.Cond.castable ad "java/lang/Cloneable").before a0 Z = true)
    (eT : T.heap = h) (A : Arv Z h a k ty z vs dv) (E : Exa Z h a ad) {pc : Nat} {Ls : Array Slot} {rest : List Value} (hsz : Ls.size = c.maxLocals) (hd : decode c.code pc = .ok (.invokevirtual index, 3)) (hf : 1 ≤ R.frames) (W : Nat) (hW : (rest.map fun v => v.category).sum = W) (hlo : W + 14 ≤ R.locals) (cap : Nat) (hcap : z.toNatClampNeg ≤ cap) (hc : cells + 1 ≤ R.cells) (hsl : slots + cap ≤ R.slots)
    (K : ∀ T' h' b, b = h.size → Stand p l e R s m args below meth c T' locs (cells + 1) (slots + cap) → T'.heap = h' → Ext h h' → Arv Z h' b k ty z vs dv → Exa Z h' b ad → ownFin p e below F Q (T'.setTop (mkF m (pc + 3) Ls (.ref b :: rest)))) :
    ownFin p e below F Q (T.setTop (mkF m pc Ls (.ref a :: rest))) := by
  obtain ⟨T', h', X', e', Ex, A', E', st⟩ := cloneH X hx hZ hown w1 w2 w3 w4 w5 w6 eT A.arh E (g := mkF m pc Ls (.ref a :: rest)) rfl hsz rfl hd hf (W := W) (by show 2 * 0 + _ ≤ _; omega) hlo hcap hc hsl
  exact ownVia st (K T' h' _ rfl X' e' Ex A' E')
theorem ownCallP {own : String} {index : Nat} {y y2 : MethodName} {bytes : ByteArray} {maxL : Nat} {ret : Option FieldType} {rm : Room} {as' : Array Value} {Q' : Option Value → Heap → List Loc → Prop} {C' : String}
    (X : Stand p l e R s m args below meth c T locs cells slots) (hx : p.tables.exec = Jvm.exec) (hZ : Z.Warmed39 s.vm) (hown : s.vm.findClass own = some m.cls)
    (w1 : (Jvm.Cond.methodLink own index y).before a0 Z = true) (w2 : (Jvm.Cond.privateMethod y).before a0 Z = true) (w5 : (Jvm.Cond.selects y2.cls y2 y2).before a0 Z = true) (hc2 : y2.cls = y.cls) (w7 : (Jvm.Cond.instanceMethod y).before a0 Z = true) (w3 : (Jvm.Cond.initialized y.cls).before a0 Z = true) (w4 : (Jvm.Cond.code y bytes maxL ret).before a0 Z = true)
    (hy : y.cls ≠ "java/lang/invoke/MethodHandle" ∧ y.cls ≠ "java/lang/invoke/VarHandle") (eT : T.heap = h) {a : Addr} (E : Exa Z h a C') (hM : ownMet l Z y bytes maxL ret [] rm as' h Q')
    {pc : Nat} {Ls : Array Slot} {st : List Value} (hsz : Ls.size = c.maxLocals) (argsL rest : List Value) (hlen : ∀ sig, parseMethodDescriptor y.desc = some sig → argsL.length = sig.parameters.length)
    (hst : st = argsL.reverse ++ .ref a :: rest) (has : (Value.ref a :: argsL).toArray = as') (W : Nat) (hW : (rest.map fun v => v.category).sum = W) (hd : decode c.code pc = .ok (.invokevirtual index, 3))
    (hfr : rm.frames + 1 ≤ R.frames) (hlo : W + (maxL + 11) + rm.locals ≤ R.locals) (hce : cells + rm.cells ≤ R.cells) (hsl : slots + rm.slots ≤ R.slots)
    (K : ∀ v T' L', Stand p l e R s m args below meth c T' (locs ++ L') (cells + rm.cells) (slots + rm.slots) → Q' v T'.heap L' → ownFin p e below F Q (T'.setTop (mkF m (pc + 3) Ls (v.toList ++ rest)))) :
    ownFin p e below F Q (T.setTop (mkF m pc Ls st)) := by
  have hpriv : s.PrivateAt y := Cond.privateMethod_at (mvP hZ w2 (args := #[]))
  have hsel2 : (Jvm.Cond.selects y2.cls y2 y2).before args s = true := mvT hZ w5
  obtain ⟨c2, r2, m2, q1, q2, q3, q4, kP, hkP, hkPi⟩ := Cond.selects_spec hsel2
  have hf2 := findClass_of_methodNamed q3
  rw [hc2] at hf2
  have hsel : (Jvm.Cond.selects y.cls y y).before args s = true := selects_self_of_private hf2 hkP hkPi hpriv (mvT hZ w7) hy
  obtain ⟨cq, qc1, qc2⟩ := E.cell
  obtain ⟨v, _, ⟨T2, L2, k2, n2⟩, -, X2, ⟨Lc2, hQ2, l2, y2', z2⟩, st2⟩ := X.privateBack hx (y := y) hown (mvT hZ w1) (mvT hZ w7) hsel hpriv (mvT hZ w4) hy (backOf (W := W) hM hZ w4 w3 hfr hlo) (g := mkF m pc Ls st) rfl hsz (Steps.refl _) (a := a) (by rw [eT]; exact qc1) qc2 (argsL := argsL) (rest := rest) hlen hst (by show 2 * 0 + _ ≤ _; omega) hd (fun _ _ => ⟨has, eT, hce, hsl⟩)
  dsimp only [Pt.U, Pt.locs, Pt.cells, Pt.slots] at X2 l2 y2' z2 st2 hQ2
  subst l2 y2' z2
  exact ownVia (fun _ k => st2.trans k) (K v T2 Lc2 X2 hQ2)
theorem ownCast {own K' : String} {index : Nat} {a : Addr} (X : Stand p l e R s m args below meth c T locs cells slots) (hx : p.tables.exec = Jvm.exec) (hZ : Z.Warmed39 s.vm) (hown : s.vm.findClass own = some m.cls) (w : (Jvm.Cond.classLink own index K').before a0 Z = true) (eT : T.heap = h) (FI : Ins Z h a K' true) {pc : Nat} {Ls : Array Slot} {rest : List Value} (hd : decode c.code pc = .ok (.checkcast index, 3))
    (K : ∀ T', Stand p l e R s m args below meth c T' locs cells slots → T'.heap = h → ownFin p e below F Q (T'.setTop (mkF m (pc + 3) Ls (.ref a :: rest)))) : ownFin p e below F Q (T.setTop (mkF m pc Ls (.ref a :: rest))) := by
  obtain ⟨T', X', e', st⟩ := castY X hx hZ hown w eT FI (g := mkF m pc Ls (.ref a :: rest)) rfl rfl hd
  exact ownVia st (K T' X' e')
theorem own_clamp {j : Int32} {n : Nat} (h : j.toInt = (n : Int)) : j.toNatClampNeg = n := by
  show j.toInt.toNat = n
  rw [h]; rfl
theorem own_nneg {j : Int32} {n : Nat} (h : j.toInt = (n : Int)) : ¬ j < 0 := fun q => by
  have := Int32.lt_iff_toInt_lt.mp q
  have k0 : (0 : Int32).toInt = 0 := by decide
  omega
theorem ownCopy {own : String} {index : Nat} {a b : Addr} {k k' : ClassId} {ty : FieldType} {z z' sp dp nn : Int32} {vs vd : List Value} {dv dd : Value} {n0 : Nat} (X : Stand p l e R s m args below meth c T locs cells slots) (hx : p.tables.exec = Jvm.exec) (hZ : Z.Warmed39 s.vm) (hown : s.vm.findClass own = some m.cls)
    (w1 : (Jvm.Cond.methodLink own index Jvm.Stand.acN).before a0 Z = true) (w2 : (Jvm.Cond.native Jvm.Stand.acN).before a0 Z = true) (w3 : (Jvm.Cond.static Jvm.Stand.acN).before a0 Z = true) (w4 : (Jvm.Cond.initialized "java/lang/System").before a0 Z = true) (eT : T.heap = h)
    (A : Arv Z h a k ty z vs dv) (B : Arv Z h b k' ty z' vd dd) (hty : refKind ty = false) (i j n lz lz' : Nat) (hi : sp.toInt = (i : Int)) (hj : dp.toInt = (j : Int)) (hn : nn.toInt = (n : Int)) (hz : z.toInt = (lz : Int)) (hz' : z'.toInt = (lz' : Int)) (h4 : i + n ≤ lz) (h5 : j + n ≤ lz') (hl : j + n ≤ vd.length) (N : Fr n0 locs) (ge : n0 ≤ b)
    {pc : Nat} {Ls : Array Slot} {rest : List Value} (hsz : Ls.size = c.maxLocals) (hd : decode c.code pc = .ok (.invokestatic index, 3)) (hf : 1 ≤ R.frames) (W : Nat) (hW : (rest.map fun v => v.category).sum = W) (hlo : W + (nativeFrameWords "java/lang/System" "arraycopy" 5 + 11) ≤ R.locals)
    (K : ∀ T' h' L', Stand p l e R s m args below meth c T' L' cells slots → T'.heap = h' → Fr n0 L' → Keep h h' [b] → Arv Z h' b k' ty z' (vd.take j ++ ((List.range n).map fun x => vs.getD (i + x) dv) ++ vd.drop (j + n)) dd → ownFin p e below F Q (T'.setTop (mkF m (pc + 3) Ls rest))) :
    ownFin p e below F Q (T.setTop (mkF m pc Ls (.int nn :: .int dp :: .ref b :: .int sp :: .ref a :: rest))) := by
  have e1 := own_clamp hi
  have e2 := own_clamp hj
  have e3 := own_clamp hn
  have e4 := own_clamp hz
  have e5 := own_clamp hz'
  obtain ⟨T', h', L', X', e', N', K', B', st⟩ := cpA X hx hZ hown w1 w2 w3 w4 eT A B (Or.inl ⟨rfl, hty⟩) (own_nneg hi) (own_nneg hj) (own_nneg hn) (by omega) (by omega) rfl (by omega) N ge (g := mkF m pc Ls (.int nn :: .int dp :: .ref b :: .int sp :: .ref a :: rest)) rfl hsz rfl hd hf (W := W) (by show 2 * 0 + _ ≤ _; omega) hlo
  rw [e1, e2, e3] at B'
  exact ownVia st (K T' h' L' X' e' N' K' B')
theorem own_lti {a b : Int32} {x y : Int} (ha : a.toInt = x) (hb : b.toInt = y) : a < b ↔ x < y := by rw [Int32.lt_iff_toInt_lt, ha, hb]
theorem own_sub {a b : Int32} {i j : Nat} (ha : a.toInt = (i : Int)) (hb : b.toInt = (j : Int)) (h : j ≤ i) : (a - b).toInt = ((i - j : Nat) : Int) := by
  have h1 := c_isub a b
  have h2 := rng32 (a - b)
  have h3 := rng32 a
  have h4 := rng32 b
  omega
theorem own_add {a b : Int32} {i j : Nat} (ha : a.toInt = (i : Int)) (hb : b.toInt = (j : Int)) (h : i + j < 2147483648) : (a + b).toInt = ((i + j : Nat) : Int) := by
  have h1 := c_iadd a b
  have h2 := rng32 (a + b)
  omega
theorem own_nlt {a b : Int32} {i j : Int} (ha : a.toInt = i) (hb : b.toInt = j) (h : j ≤ i) : ¬ a < b := fun q => by
  have := (own_lti ha hb).mp q
  omega
theorem own_enum {args : Array Value} {C n d K : String} (hx : (Jvm.Cond.exactly (.static C n d) K).value args s none s [] = some true) (wi : (Jvm.Cond.initialized C).before args s = true) (wl : (Jvm.Cond.laysStatic C n d).before args s = true) :
    ∃ a, (Term.static C n d).eval args s none [] s = some (.ref a) ∧ Sta s s.heap C n d (.ref a) ∧ Exa s s.heap a K := by
  obtain ⟨a, ev⟩ := exa_v hx
  exact ⟨a, ev, Sta.start ev (Or.inr ⟨wi, wl⟩), Exa.start ev hx⟩
theorem own_eqv {args : Array Value} {t : Term} {k : Int32} (hf : (Jvm.Cond.eq t (.int k)).value args s none s [] = some true) : t.eval args s none [] s = some (.int k) := by
  cases hv : t.eval args s none [] s with
  | none => simp [Cond.value, hv] at hf
  | some v =>
    cases v <;> simp [Cond.value, hv, Term.eval] at hf
    rw [hf]
theorem own_efld {args : Array Value} {t : Term} {a : Addr} {C n d : String} {k : Int32} (ev : t.eval args s none [] s = some (.ref a)) (hf : (Jvm.Cond.eq (.field t C n d) (.int k)).value args s none s [] = some true) : Fld s s.heap a C n d (.int k) :=
  Fld.start ((fld_at ev).symm.trans (own_eqv hf))
theorem own_iff_f {A B P : Prop} (hA : ¬ A) (h : P ↔ A ∨ B) : P ↔ B := by simpa [hA] using h
theorem own_iff_t {A B P : Prop} (hA : A) (h : P ↔ A ∨ B) : P := h.mpr (Or.inl hA)
theorem own_ref_ne {a b : Addr} (h : a ≠ b) : ¬ (Value.ref a) = .ref b := fun q => h (by cases q; rfl)
theorem own_sz {n0 : Nat} {h' : Heap} (q : n0 ≤ h.size) (E : Ext h h') : n0 ≤ h'.size := Nat.le_trans q E.1
theorem own_szW {n0 : Nat} {h' : Heap} {a : Addr} {sl : Nat} {v : Value} (q : n0 ≤ h.size) (W : Wr h h' a sl v) : n0 ≤ h'.size := by rw [W.size]; exact q
theorem own_eqi {a b : Int32} {x y : Int} (ha : a.toInt = x) (hb : b.toInt = y) : a = b ↔ x = y := by rw [← Int32.toInt_inj, ha, hb]
theorem own_ltl {a b : Int64} {x y : Int} (ha : a.toInt = x) (hb : b.toInt = y) : a < b ↔ x < y := by rw [Int64.lt_iff_toInt_lt, ha, hb]
theorem own_eql {a b : Int64} {x y : Int} (ha : a.toInt = x) (hb : b.toInt = y) : a = b ↔ x = y := by rw [← Int64.toInt_inj, ha, hb]
theorem own_getD_map {α β : Type} (f : α → β) (d : α) (xs : List α) (n : Nat) : (xs.map f).getD n (f d) = f (xs.getD n d) := by
  simp only [List.getD_eq_getElem?_getD, List.getElem?_map]
  cases xs[n]? <;> rfl
theorem own_idx {j z : Int32} {zi : Int} (hz : z.toInt = zi) (h1 : 0 ≤ j.toInt) (h2 : j.toInt < zi) : ¬ j < 0 ∧ j < z := ⟨fun q => by have := (own_lti rfl (by decide : (0 : Int32).toInt = 0)).mp q; omega, Int32.lt_iff_toInt_lt.mpr (by rw [hz]; exact h2)⟩
end Own
def own_bl (p3 p4 p5 p6 : Int32) : Nat → List Int32
  | 0 => []
  | 1 => [nar .byte (p3.toInt8.toInt32)]
  | 2 => [nar .byte (p3.toInt8.toInt32), nar .byte (p4.toInt8.toInt32)]
  | 3 => [nar .byte (p3.toInt8.toInt32), nar .byte (p4.toInt8.toInt32), nar .byte (p5.toInt8.toInt32)]
  | 4 => [nar .byte (p3.toInt8.toInt32), nar .byte (p4.toInt8.toInt32), nar .byte (p5.toInt8.toInt32), nar .byte (p6.toInt8.toInt32)]
  | _ => []
def own_hs (acc b : Int32) : Int32 := ((257 : Int32) * acc) + (b &&& (255 : Int32))
def own_hash (t : Int32) (bs : List Int32) : Int32 := bs.foldl own_hs t
theorem own_hash_succ {t : Int32} {bs : List Int32} {i : Nat} (h : i < bs.length) : own_hash t (bs.take (i + 1)) = own_hs (own_hash t (bs.take i)) (bs.getD i 0) := by
  have e : bs.take (i + 1) = bs.take i ++ [bs.getD i 0] := by
    rw [List.take_add_one, List.getElem?_eq_getElem h, List.getD_eq_getElem?_getD, List.getElem?_eq_getElem h]
    rfl
  rw [e, own_hash, List.foldl_append]
  rfl
theorem own_eq32 {x y : Int32} (h : (x.toInt - y.toInt) % 4294967296 = 0) : x = y := by
  have a := rng32 x
  have b := rng32 y
  exact Int32.toInt_inj.mp (by omega)
theorem own_lm (x y : Int64) (k : Int) (hk : y.toInt = k) : ((x * y).toInt - x.toInt * k) % 18446744073709551616 = 0 := by
  have h := c_lmul x y
  rw [hk] at h
  exact h
theorem own_id (x : Int64) : (x.toInt - x.toInt) % 18446744073709551616 = 0 := by omega
theorem own_ca {x y : Int64} {A B : Int} (h1 : (x.toInt - A) % 18446744073709551616 = 0) (h2 : (y.toInt - B) % 18446744073709551616 = 0) : ((x + y).toInt - (A + B)) % 18446744073709551616 = 0 := by
  have h := c_ladd x y
  omega
theorem own_hst (a b : Int32) (A : Int) (hA : (a.toInt - A) % 4294967296 = 0) (u : Int) (hu : (b &&& (255 : Int32)).toInt = u) : ((own_hs a b).toInt - (257 * A + u)) % 4294967296 = 0 := by
  have h1 := c_imul 257 a
  have h2 := c_iadd ((257 : Int32) * a) (b &&& (255 : Int32))
  have k : (257 : Int32).toInt = 257 := by decide
  rw [k] at h1
  unfold own_hs
  omega
theorem own_ub (q : Int32) : ((nar .byte (q.toInt8.toInt32)) &&& (255 : Int32)).toInt = (q &&& (255 : Int32)).toInt ∧ True := by
  have e : nar .byte (q.toInt8.toInt32) = q.toInt8.toInt32.toInt8.toInt32 := rfl
  have h2 := c_i2b q
  have h3 := c_i2b q.toInt8.toInt32
  have h4 := c_mask (nar .byte (q.toInt8.toInt32)) 255 8 (by decide) (by decide)
  have h5 := c_mask q 255 8 (by decide) (by decide)
  rw [e] at h4 ⊢
  exact ⟨by omega, trivial⟩
theorem own_e0 (t : Int64) : ((t).toInt - (t.toInt)) % 18446744073709551616 = 0 := (own_id t)
theorem own_e1 (t a : Int64) : ((((t * (257 : Int64)) + a)).toInt - ((t.toInt * 257 + a.toInt))) % 18446744073709551616 = 0 := (own_ca (own_lm t 257 257 (by decide)) (own_id a))
theorem own_e2 (t a b : Int64) : (((((t * (66049 : Int64)) + (a * (257 : Int64))) + b)).toInt - (((t.toInt * 66049 + a.toInt * 257) + b.toInt))) % 18446744073709551616 = 0 := (own_ca (own_ca (own_lm t 66049 66049 (by decide)) (own_lm a 257 257 (by decide))) (own_id b))
theorem own_e3 (t a b c : Int64) : ((((((t * (16974593 : Int64)) + (a * (66049 : Int64))) + (b * (257 : Int64))) + c)).toInt - ((((t.toInt * 16974593 + a.toInt * 66049) + b.toInt * 257) + c.toInt))) % 18446744073709551616 = 0 := (own_ca (own_ca (own_ca (own_lm t 16974593 16974593 (by decide)) (own_lm a 66049 66049 (by decide))) (own_lm b 257 257 (by decide))) (own_id c))
theorem own_e4 (t a b c d : Int64) : (((((((t * (4362470401 : Int64)) + (a * (16974593 : Int64))) + (b * (66049 : Int64))) + (c * (257 : Int64))) + d)).toInt - (((((t.toInt * 4362470401 + a.toInt * 16974593) + b.toInt * 66049) + c.toInt * 257) + d.toInt))) % 18446744073709551616 = 0 := (own_ca (own_ca (own_ca (own_ca (own_lm t 4362470401 4362470401 (by decide)) (own_lm a 16974593 16974593 (by decide))) (own_lm b 66049 66049 (by decide))) (own_lm c 257 257 (by decide))) (own_id d))
theorem own_h0 (tv p3 p4 p5 p6 : Int32) : own_hash tv (own_bl p3 p4 p5 p6 0) = ((tv.toInt64)).toInt32 := by
  have sz : ((own_hash tv (own_bl p3 p4 p5 p6 0)).toInt - tv.toInt) % 4294967296 = 0 := (by show (tv.toInt - tv.toInt) % 4294967296 = 0; omega)
  have hE := own_e0 (tv.toInt64)
  have hl := c_l2i ((tv.toInt64))
  rw [c_i2l tv] at hE
  have ht := c_i2l tv
  apply own_eq32
  generalize (own_hash tv (own_bl p3 p4 p5 p6 0)).toInt = X at *
  generalize ((tv.toInt64)).toInt32.toInt = Y at *
  generalize ((tv.toInt64)).toInt = W at *
  generalize tv.toInt = t at *
  omega
theorem own_h1 (tv p3 p4 p5 p6 : Int32) : own_hash tv (own_bl p3 p4 p5 p6 1) = ((((tv.toInt64) * (257 : Int64)) + ((p3 &&& (255 : Int32)).toInt64))).toInt32 := by
  have u0 := own_ub p3
  have s0 := own_hst tv (nar .byte (p3.toInt8.toInt32)) _ (by omega : (tv.toInt - tv.toInt) % 4294967296 = 0) _ u0.1
  have sz : ((own_hash tv (own_bl p3 p4 p5 p6 1)).toInt - (257 * tv.toInt + (p3 &&& (255 : Int32)).toInt)) % 4294967296 = 0 := s0
  clear s0 u0
  have hE := own_e1 (tv.toInt64) ((p3 &&& (255 : Int32)).toInt64)
  have hl := c_l2i ((((tv.toInt64) * (257 : Int64)) + ((p3 &&& (255 : Int32)).toInt64)))
  rw [c_i2l tv, c_i2l (p3 &&& (255 : Int32))] at hE
  apply own_eq32
  generalize (own_hash tv (own_bl p3 p4 p5 p6 1)).toInt = X at *
  generalize ((((tv.toInt64) * (257 : Int64)) + ((p3 &&& (255 : Int32)).toInt64))).toInt32.toInt = Y at *
  generalize ((((tv.toInt64) * (257 : Int64)) + ((p3 &&& (255 : Int32)).toInt64))).toInt = W at *
  generalize (p3 &&& (255 : Int32)).toInt = x0 at *
  generalize tv.toInt = t at *
  omega
theorem own_h2 (tv p3 p4 p5 p6 : Int32) : own_hash tv (own_bl p3 p4 p5 p6 2) = (((((tv.toInt64) * (66049 : Int64)) + (((p3 &&& (255 : Int32)).toInt64) * (257 : Int64))) + ((p4 &&& (255 : Int32)).toInt64))).toInt32 := by
  have u0 := own_ub p3
  have u1 := own_ub p4
  have s0 := own_hst tv (nar .byte (p3.toInt8.toInt32)) _ (by omega : (tv.toInt - tv.toInt) % 4294967296 = 0) _ u0.1
  have s1 := own_hst _ (nar .byte (p4.toInt8.toInt32)) _ (s0) _ u1.1
  have sz : ((own_hash tv (own_bl p3 p4 p5 p6 2)).toInt - (257 * (257 * tv.toInt + (p3 &&& (255 : Int32)).toInt) + (p4 &&& (255 : Int32)).toInt)) % 4294967296 = 0 := s1
  clear s0 s1 u0 u1
  have hE := own_e2 (tv.toInt64) ((p3 &&& (255 : Int32)).toInt64) ((p4 &&& (255 : Int32)).toInt64)
  have hl := c_l2i (((((tv.toInt64) * (66049 : Int64)) + (((p3 &&& (255 : Int32)).toInt64) * (257 : Int64))) + ((p4 &&& (255 : Int32)).toInt64)))
  rw [c_i2l tv, c_i2l (p3 &&& (255 : Int32)), c_i2l (p4 &&& (255 : Int32))] at hE
  apply own_eq32
  generalize (own_hash tv (own_bl p3 p4 p5 p6 2)).toInt = X at *
  generalize (((((tv.toInt64) * (66049 : Int64)) + (((p3 &&& (255 : Int32)).toInt64) * (257 : Int64))) + ((p4 &&& (255 : Int32)).toInt64))).toInt32.toInt = Y at *
  generalize (((((tv.toInt64) * (66049 : Int64)) + (((p3 &&& (255 : Int32)).toInt64) * (257 : Int64))) + ((p4 &&& (255 : Int32)).toInt64))).toInt = W at *
  generalize (p3 &&& (255 : Int32)).toInt = x0 at *
  generalize (p4 &&& (255 : Int32)).toInt = x1 at *
  generalize tv.toInt = t at *
  omega
theorem own_h3 (tv p3 p4 p5 p6 : Int32) : own_hash tv (own_bl p3 p4 p5 p6 3) = ((((((tv.toInt64) * (16974593 : Int64)) + (((p3 &&& (255 : Int32)).toInt64) * (66049 : Int64))) + (((p4 &&& (255 : Int32)).toInt64) * (257 : Int64))) + ((p5 &&& (255 : Int32)).toInt64))).toInt32 := by
  have u0 := own_ub p3
  have u1 := own_ub p4
  have u2 := own_ub p5
  have s0 := own_hst tv (nar .byte (p3.toInt8.toInt32)) _ (by omega : (tv.toInt - tv.toInt) % 4294967296 = 0) _ u0.1
  have s1 := own_hst _ (nar .byte (p4.toInt8.toInt32)) _ (s0) _ u1.1
  have s2 := own_hst _ (nar .byte (p5.toInt8.toInt32)) _ (s1) _ u2.1
  have sz : ((own_hash tv (own_bl p3 p4 p5 p6 3)).toInt - (257 * (257 * (257 * tv.toInt + (p3 &&& (255 : Int32)).toInt) + (p4 &&& (255 : Int32)).toInt) + (p5 &&& (255 : Int32)).toInt)) % 4294967296 = 0 := s2
  clear s0 s1 s2 u0 u1 u2
  have hE := own_e3 (tv.toInt64) ((p3 &&& (255 : Int32)).toInt64) ((p4 &&& (255 : Int32)).toInt64) ((p5 &&& (255 : Int32)).toInt64)
  have hl := c_l2i ((((((tv.toInt64) * (16974593 : Int64)) + (((p3 &&& (255 : Int32)).toInt64) * (66049 : Int64))) + (((p4 &&& (255 : Int32)).toInt64) * (257 : Int64))) + ((p5 &&& (255 : Int32)).toInt64)))
  rw [c_i2l tv, c_i2l (p3 &&& (255 : Int32)), c_i2l (p4 &&& (255 : Int32)), c_i2l (p5 &&& (255 : Int32))] at hE
  apply own_eq32
  generalize (own_hash tv (own_bl p3 p4 p5 p6 3)).toInt = X at *
  generalize ((((((tv.toInt64) * (16974593 : Int64)) + (((p3 &&& (255 : Int32)).toInt64) * (66049 : Int64))) + (((p4 &&& (255 : Int32)).toInt64) * (257 : Int64))) + ((p5 &&& (255 : Int32)).toInt64))).toInt32.toInt = Y at *
  generalize ((((((tv.toInt64) * (16974593 : Int64)) + (((p3 &&& (255 : Int32)).toInt64) * (66049 : Int64))) + (((p4 &&& (255 : Int32)).toInt64) * (257 : Int64))) + ((p5 &&& (255 : Int32)).toInt64))).toInt = W at *
  generalize (p3 &&& (255 : Int32)).toInt = x0 at *
  generalize (p4 &&& (255 : Int32)).toInt = x1 at *
  generalize (p5 &&& (255 : Int32)).toInt = x2 at *
  generalize tv.toInt = t at *
  omega
theorem own_h4 (tv p3 p4 p5 p6 : Int32) : own_hash tv (own_bl p3 p4 p5 p6 4) = (((((((tv.toInt64) * (4362470401 : Int64)) + (((p3 &&& (255 : Int32)).toInt64) * (16974593 : Int64))) + (((p4 &&& (255 : Int32)).toInt64) * (66049 : Int64))) + (((p5 &&& (255 : Int32)).toInt64) * (257 : Int64))) + ((p6 &&& (255 : Int32)).toInt64))).toInt32 := by
  have u0 := own_ub p3
  have u1 := own_ub p4
  have u2 := own_ub p5
  have u3 := own_ub p6
  have s0 := own_hst tv (nar .byte (p3.toInt8.toInt32)) _ (by omega : (tv.toInt - tv.toInt) % 4294967296 = 0) _ u0.1
  have s1 := own_hst _ (nar .byte (p4.toInt8.toInt32)) _ (s0) _ u1.1
  have s2 := own_hst _ (nar .byte (p5.toInt8.toInt32)) _ (s1) _ u2.1
  have s3 := own_hst _ (nar .byte (p6.toInt8.toInt32)) _ (s2) _ u3.1
  have sz : ((own_hash tv (own_bl p3 p4 p5 p6 4)).toInt - (257 * (257 * (257 * (257 * tv.toInt + (p3 &&& (255 : Int32)).toInt) + (p4 &&& (255 : Int32)).toInt) + (p5 &&& (255 : Int32)).toInt) + (p6 &&& (255 : Int32)).toInt)) % 4294967296 = 0 := s3
  clear s0 s1 s2 s3 u0 u1 u2 u3
  have hE := own_e4 (tv.toInt64) ((p3 &&& (255 : Int32)).toInt64) ((p4 &&& (255 : Int32)).toInt64) ((p5 &&& (255 : Int32)).toInt64) ((p6 &&& (255 : Int32)).toInt64)
  have hl := c_l2i (((((((tv.toInt64) * (4362470401 : Int64)) + (((p3 &&& (255 : Int32)).toInt64) * (16974593 : Int64))) + (((p4 &&& (255 : Int32)).toInt64) * (66049 : Int64))) + (((p5 &&& (255 : Int32)).toInt64) * (257 : Int64))) + ((p6 &&& (255 : Int32)).toInt64)))
  rw [c_i2l tv, c_i2l (p3 &&& (255 : Int32)), c_i2l (p4 &&& (255 : Int32)), c_i2l (p5 &&& (255 : Int32)), c_i2l (p6 &&& (255 : Int32))] at hE
  apply own_eq32
  generalize (own_hash tv (own_bl p3 p4 p5 p6 4)).toInt = X at *
  generalize (((((((tv.toInt64) * (4362470401 : Int64)) + (((p3 &&& (255 : Int32)).toInt64) * (16974593 : Int64))) + (((p4 &&& (255 : Int32)).toInt64) * (66049 : Int64))) + (((p5 &&& (255 : Int32)).toInt64) * (257 : Int64))) + ((p6 &&& (255 : Int32)).toInt64))).toInt32.toInt = Y at *
  generalize (((((((tv.toInt64) * (4362470401 : Int64)) + (((p3 &&& (255 : Int32)).toInt64) * (16974593 : Int64))) + (((p4 &&& (255 : Int32)).toInt64) * (66049 : Int64))) + (((p5 &&& (255 : Int32)).toInt64) * (257 : Int64))) + ((p6 &&& (255 : Int32)).toInt64))).toInt = W at *
  generalize (p3 &&& (255 : Int32)).toInt = x0 at *
  generalize (p4 &&& (255 : Int32)).toInt = x1 at *
  generalize (p5 &&& (255 : Int32)).toInt = x2 at *
  generalize (p6 &&& (255 : Int32)).toInt = x3 at *
  generalize tv.toInt = t at *
  omega
theorem own_lit {len : Int32} {N : Nat} {k : Int32} (hN : len.toInt = (N : Int)) (hk : k.toInt = (N : Int)) : len = k := Int32.toInt_inj.mp (hN.trans hk.symm)
theorem own_len (p : Int32) : 0 ≤ ((p &&& (2147483647 : Int32)) % (5 : Int32)).toInt ∧ ((p &&& (2147483647 : Int32)) % (5 : Int32)).toInt < 5 := by
  have a := c_mask p 2147483647 31 (by decide) (by decide)
  have b := (c_irem (p &&& (2147483647 : Int32)) 5 5 (by decide)).1 (by omega)
  omega
theorem own_ty (p : Int32) : 0 ≤ (p &&& (65535 : Int32)).toInt ∧ (p &&& (65535 : Int32)).toInt ≤ 65535 := by
  have h1 := c_mask p 65535 16 (by decide) (by decide)
  omega
theorem own_bllen (p3 p4 p5 p6 : Int32) {N : Nat} (h2 : N ≤ 4) : (own_bl p3 p4 p5 p6 N).length = N := by
  have hs : N = 0 ∨ N = 1 ∨ N = 2 ∨ N = 3 ∨ N = 4 := by omega
  rcases hs with rfl | rfl | rfl | rfl | rfl <;> rfl
theorem d1_0 : decode method_2_code 0 = .ok (.iload_n 0, 1) := by decide +kernel
theorem d1_1 : decode method_2_code 1 = .ok (.ifCond .ne 7, 3) := by decide +kernel
theorem d1_4 : decode method_2_code 4 = .ok (.iconst 0, 1) := by decide +kernel
theorem d1_5 : decode method_2_code 5 = .ok (.newarray .byte, 2) := by decide +kernel
theorem d1_7 : decode method_2_code 7 = .ok (.areturn, 1) := by decide +kernel
theorem d1_8 : decode method_2_code 8 = .ok (.iload_n 0, 1) := by decide +kernel
theorem d1_9 : decode method_2_code 9 = .ok (.iconst 1, 1) := by decide +kernel
theorem d1_10 : decode method_2_code 10 = .ok (.if_icmp .ne 12, 3) := by decide +kernel
theorem d1_13 : decode method_2_code 13 = .ok (.iconst 1, 1) := by decide +kernel
theorem d1_14 : decode method_2_code 14 = .ok (.newarray .byte, 2) := by decide +kernel
theorem d1_16 : decode method_2_code 16 = .ok (.dup, 1) := by decide +kernel
theorem d1_17 : decode method_2_code 17 = .ok (.iconst 0, 1) := by decide +kernel
theorem d1_18 : decode method_2_code 18 = .ok (.iload_n 1, 1) := by decide +kernel
theorem d1_19 : decode method_2_code 19 = .ok (.i2b, 1) := by decide +kernel
theorem d1_20 : decode method_2_code 20 = .ok (.bastore, 1) := by decide +kernel
theorem d1_21 : decode method_2_code 21 = .ok (.areturn, 1) := by decide +kernel
theorem d1_22 : decode method_2_code 22 = .ok (.iload_n 0, 1) := by decide +kernel
theorem d1_23 : decode method_2_code 23 = .ok (.iconst 2, 1) := by decide +kernel
theorem d1_24 : decode method_2_code 24 = .ok (.if_icmp .ne 17, 3) := by decide +kernel
theorem d1_27 : decode method_2_code 27 = .ok (.iconst 2, 1) := by decide +kernel
theorem d1_28 : decode method_2_code 28 = .ok (.newarray .byte, 2) := by decide +kernel
theorem d1_30 : decode method_2_code 30 = .ok (.dup, 1) := by decide +kernel
theorem d1_31 : decode method_2_code 31 = .ok (.iconst 0, 1) := by decide +kernel
theorem d1_32 : decode method_2_code 32 = .ok (.iload_n 1, 1) := by decide +kernel
theorem d1_33 : decode method_2_code 33 = .ok (.i2b, 1) := by decide +kernel
theorem d1_34 : decode method_2_code 34 = .ok (.bastore, 1) := by decide +kernel
theorem d1_35 : decode method_2_code 35 = .ok (.dup, 1) := by decide +kernel
theorem d1_36 : decode method_2_code 36 = .ok (.iconst 1, 1) := by decide +kernel
theorem d1_37 : decode method_2_code 37 = .ok (.iload_n 2, 1) := by decide +kernel
theorem d1_38 : decode method_2_code 38 = .ok (.i2b, 1) := by decide +kernel
theorem d1_39 : decode method_2_code 39 = .ok (.bastore, 1) := by decide +kernel
theorem d1_40 : decode method_2_code 40 = .ok (.areturn, 1) := by decide +kernel
theorem d1_41 : decode method_2_code 41 = .ok (.iload_n 0, 1) := by decide +kernel
theorem d1_42 : decode method_2_code 42 = .ok (.iconst 3, 1) := by decide +kernel
theorem d1_43 : decode method_2_code 43 = .ok (.if_icmp .ne 22, 3) := by decide +kernel
theorem d1_46 : decode method_2_code 46 = .ok (.iconst 3, 1) := by decide +kernel
theorem d1_47 : decode method_2_code 47 = .ok (.newarray .byte, 2) := by decide +kernel
theorem d1_49 : decode method_2_code 49 = .ok (.dup, 1) := by decide +kernel
theorem d1_50 : decode method_2_code 50 = .ok (.iconst 0, 1) := by decide +kernel
theorem d1_51 : decode method_2_code 51 = .ok (.iload_n 1, 1) := by decide +kernel
theorem d1_52 : decode method_2_code 52 = .ok (.i2b, 1) := by decide +kernel
theorem d1_53 : decode method_2_code 53 = .ok (.bastore, 1) := by decide +kernel
theorem d1_54 : decode method_2_code 54 = .ok (.dup, 1) := by decide +kernel
theorem d1_55 : decode method_2_code 55 = .ok (.iconst 1, 1) := by decide +kernel
theorem d1_56 : decode method_2_code 56 = .ok (.iload_n 2, 1) := by decide +kernel
theorem d1_57 : decode method_2_code 57 = .ok (.i2b, 1) := by decide +kernel
theorem d1_58 : decode method_2_code 58 = .ok (.bastore, 1) := by decide +kernel
theorem d1_59 : decode method_2_code 59 = .ok (.dup, 1) := by decide +kernel
theorem d1_60 : decode method_2_code 60 = .ok (.iconst 2, 1) := by decide +kernel
theorem d1_61 : decode method_2_code 61 = .ok (.iload_n 3, 1) := by decide +kernel
theorem d1_62 : decode method_2_code 62 = .ok (.i2b, 1) := by decide +kernel
theorem d1_63 : decode method_2_code 63 = .ok (.bastore, 1) := by decide +kernel
theorem d1_64 : decode method_2_code 64 = .ok (.areturn, 1) := by decide +kernel
theorem d1_65 : decode method_2_code 65 = .ok (.iconst 4, 1) := by decide +kernel
theorem d1_66 : decode method_2_code 66 = .ok (.newarray .byte, 2) := by decide +kernel
theorem d1_68 : decode method_2_code 68 = .ok (.dup, 1) := by decide +kernel
theorem d1_69 : decode method_2_code 69 = .ok (.iconst 0, 1) := by decide +kernel
theorem d1_70 : decode method_2_code 70 = .ok (.iload_n 1, 1) := by decide +kernel
theorem d1_71 : decode method_2_code 71 = .ok (.i2b, 1) := by decide +kernel
theorem d1_72 : decode method_2_code 72 = .ok (.bastore, 1) := by decide +kernel
theorem d1_73 : decode method_2_code 73 = .ok (.dup, 1) := by decide +kernel
theorem d1_74 : decode method_2_code 74 = .ok (.iconst 1, 1) := by decide +kernel
theorem d1_75 : decode method_2_code 75 = .ok (.iload_n 2, 1) := by decide +kernel
theorem d1_76 : decode method_2_code 76 = .ok (.i2b, 1) := by decide +kernel
theorem d1_77 : decode method_2_code 77 = .ok (.bastore, 1) := by decide +kernel
theorem d1_78 : decode method_2_code 78 = .ok (.dup, 1) := by decide +kernel
theorem d1_79 : decode method_2_code 79 = .ok (.iconst 2, 1) := by decide +kernel
theorem d1_80 : decode method_2_code 80 = .ok (.iload_n 3, 1) := by decide +kernel
theorem d1_81 : decode method_2_code 81 = .ok (.i2b, 1) := by decide +kernel
theorem d1_82 : decode method_2_code 82 = .ok (.bastore, 1) := by decide +kernel
theorem d1_83 : decode method_2_code 83 = .ok (.dup, 1) := by decide +kernel
theorem d1_84 : decode method_2_code 84 = .ok (.iconst 3, 1) := by decide +kernel
theorem d1_85 : decode method_2_code 85 = .ok (.iload 4, 2) := by decide +kernel
theorem d1_87 : decode method_2_code 87 = .ok (.i2b, 1) := by decide +kernel
theorem d1_88 : decode method_2_code 88 = .ok (.bastore, 1) := by decide +kernel
theorem d1_89 : decode method_2_code 89 = .ok (.areturn, 1) := by decide +kernel
theorem own_pn0 : plainName "com/example/cairn/cairn/ccnx/TlvHashCodePinLaw" = true := by first | (simp [plainName, overriddenIn]; done) | decide +kernel
theorem own_ef1 (m : MethodId) (p1 : Int32) (p3 : Int32) (p4 : Int32) (p5 : Int32) (p6 : Int32) : entryFrame m #[(.int p1), (.int p3), (.int p4), (.int p5), (.int p6)] 5 = mkF m 0 #[.val (.int p1), .val (.int p3), .val (.int p4), .val (.int p5), .val (.int p6)] [] := by first | (simp [entryFrame, mkF, argsToLocals, Value.category]; done) | rfl
def Q_own_bytes (Z : State) (p1 : Int32) (p3 : Int32) (p4 : Int32) (p5 : Int32) (p6 : Int32) (h0 : Heap) (n0 : Nat) (M : Nat) : Option Value → Heap → List Loc → Prop := fun v h L => ∃ b kb, v = some (.ref b) ∧ Fr n0 L ∧ Keep h0 h [] ∧ h0.size ≤ b ∧ Exa Z h b "[B" ∧ Arv Z h b kb .byte p1 ((own_bl p3 p4 p5 p6 M).map Value.int) (.int (0 : Int32))
set_option maxRecDepth 65536 in
set_option maxHeartbeats 40000000 in
theorem own_bytes (l : Launch) (Z : State) (a0 : Array Value) (hw : ∀ d ∈ tables_1, d.before a0 Z = true)  (p1 : Int32) (p3 : Int32) (p4 : Int32) (p5 : Int32) (p6 : Int32) (h0 : Heap) (n0 : Nat) (M : Nat) (Z0 : n0 ≤ h0.size) (hM : p1.toInt = (M : Int)) (hM8 : M ≤ 4) :
    ownMet l Z (⟨"com/example/cairn/cairn/ccnx/TlvHashCodePinLaw", "bytes", "(IIIII)[B"⟩ : MethodName) method_2_code 5 (some (.array .byte)) [] ({ frames := 0, cells := 1, slots := 4, locals := 0 } : Room) #[(.int p1), (.int p3), (.int p4), (.int p5), (.int p6)] h0 (Q_own_bytes Z p1 p3 p4 p5 p6 h0 n0 M) := by
  refine ownBody (plainFor_of_name own_pn0) ?_
  intro p e s m below meth c T0 hx hby hml hret hlk hZ hown hnm X0 e0
  have N0 : Fr n0 [] := Fr.nil n0
  refine ownVia (fun _ k => castTop (own_ef1 m p1 p3 p4 p5 p6) k) ?_
  show ownFin _ _ _ _ _ (T0.setTop (mkF m 0 #[.val (.int p1), .val (.int p3), .val (.int p4), .val (.int p5), .val (.int p6)] []))
  have K0 : Keep h0 h0 [] := Keep.refl _ _
  refine ownVia (fun _ k => XS.iloadN X0.here hx rfl (hb hby d1_0) rfl k) ?_
  show ownFin _ _ _ _ _ (T0.setTop (mkF m 1 #[.val (.int p1), .val (.int p3), .val (.int p4), .val (.int p5), .val (.int p6)] [(.int p1)]))
  by_cases hc2 : p1 = (0 : Int32)
  case pos =>
    have hc2I : (M : Int) = 0 := (own_eqi hM (by decide)).mp hc2
    refine ownVia (fun _ k => XS.ifNo X0.here hx rfl (hb hby d1_1) rfl ((if0 _ _).trans (teq hc2).2) k) ?_
    show ownFin _ _ _ _ _ (T0.setTop (mkF m 4 #[.val (.int p1), .val (.int p3), .val (.int p4), .val (.int p5), .val (.int p6)] []))
    refine ownVia (fun _ k => XS.iconst X0.here hx rfl (hb hby d1_4) k) ?_
    show ownFin _ _ _ _ _ (T0.setTop (mkF m 5 #[.val (.int p1), .val (.int p3), .val (.int p4), .val (.int p5), .val (.int p6)] [(.int (0 : Int32))]))
    refine ownNewP X0 hx hZ (hw _ (List.mem_of_getElem? (i := 6) rfl)) e0 "[B" (by decide) (by decide) (0) (by decide) (4) (by decide) (by decide) (by decide) (by decide) (hb hby d1_5) ?_
    intro T3 h3 k_b1 b1 g3 X3 e3 E3 A_b1 E_b1
    have ge_b1 : n0 ≤ b1 := Nat.le_trans Z0 (Nat.le_of_eq g3.symm)
    have sz_b1 : h0.size ≤ b1 := Nat.le_trans K0.1 (Nat.le_of_eq g3.symm)
    have K0 := K0.ext E3
    have Z0 := own_sz Z0 E3
    have A_b1 : Arv Z h3 b1 k_b1 .byte (0 : Int32) [] (.int (0 : Int32)) := A_b1
    show ownFin _ _ _ _ _ (T3.setTop (mkF m 7 #[.val (.int p1), .val (.int p3), .val (.int p4), .val (.int p5), .val (.int p6)] [(.ref b1)]))
    have hMN : M = 0 := by omega
    refine ownRetA X3 hx hlk (ty := (.array .byte)) hret rfl (hb hby d1_7) (by decide) (by decide) ?_
    show (Q_own_bytes Z p1 p3 p4 p5 p6 h0 n0 M) (some (.ref b1)) T3.heap _
    rw [e3]
    exact ⟨b1, k_b1, rfl, N0, K0, sz_b1, E_b1, by rw [(own_lit hM (by rw [hMN]; decide) : p1 = (0 : Int32)), hMN]; exact A_b1⟩
  case neg =>
    have hc2I : ¬ (M : Int) = 0 := fun q => hc2 ((own_eqi hM (by decide)).mpr q)
    refine ownVia (fun _ k => XS.ifYes X0.here hx rfl (pc0 := 1) (pc' := 8) rfl (hb hby d1_1) rfl ((if0 _ _).trans (feq hc2).2) (by decide) (by decide) k) ?_
    show ownFin _ _ _ _ _ (T0.setTop (mkF m 8 #[.val (.int p1), .val (.int p3), .val (.int p4), .val (.int p5), .val (.int p6)] []))
    refine ownVia (fun _ k => XS.iloadN X0.here hx rfl (hb hby d1_8) rfl k) ?_
    show ownFin _ _ _ _ _ (T0.setTop (mkF m 9 #[.val (.int p1), .val (.int p3), .val (.int p4), .val (.int p5), .val (.int p6)] [(.int p1)]))
    refine ownVia (fun _ k => XS.iconst X0.here hx rfl (hb hby d1_9) k) ?_
    show ownFin _ _ _ _ _ (T0.setTop (mkF m 10 #[.val (.int p1), .val (.int p3), .val (.int p4), .val (.int p5), .val (.int p6)] [(.int (1 : Int32)), (.int p1)]))
    by_cases hc4 : p1 = (1 : Int32)
    case pos =>
      have hc4I : (M : Int) = 1 := (own_eqi hM (by decide)).mp hc4
      refine ownVia (fun _ k => XS.icmpNo X0.here hx rfl (hb hby d1_10) rfl (teq hc4).2 k) ?_
      show ownFin _ _ _ _ _ (T0.setTop (mkF m 13 #[.val (.int p1), .val (.int p3), .val (.int p4), .val (.int p5), .val (.int p6)] []))
      refine ownVia (fun _ k => XS.iconst X0.here hx rfl (hb hby d1_13) k) ?_
      show ownFin _ _ _ _ _ (T0.setTop (mkF m 14 #[.val (.int p1), .val (.int p3), .val (.int p4), .val (.int p5), .val (.int p6)] [(.int (1 : Int32))]))
      refine ownNewP X0 hx hZ (hw _ (List.mem_of_getElem? (i := 6) rfl)) e0 "[B" (by decide) (by decide) (1) (by decide) (4) (by decide) (by decide) (by decide) (by decide) (hb hby d1_14) ?_
      intro T5 h5 k_b1 b1 g5 X5 e5 E5 A_b1 E_b1
      have ge_b1 : n0 ≤ b1 := Nat.le_trans Z0 (Nat.le_of_eq g5.symm)
      have sz_b1 : h0.size ≤ b1 := Nat.le_trans K0.1 (Nat.le_of_eq g5.symm)
      have K0 := K0.ext E5
      have Z0 := own_sz Z0 E5
      have A_b1 : Arv Z h5 b1 k_b1 .byte (1 : Int32) [(.int (0 : Int32))] (.int (0 : Int32)) := A_b1
      show ownFin _ _ _ _ _ (T5.setTop (mkF m 16 #[.val (.int p1), .val (.int p3), .val (.int p4), .val (.int p5), .val (.int p6)] [(.ref b1)]))
      refine ownVia (fun _ k => XS.dup X5.here hx rfl (hb hby d1_16) rfl rfl k) ?_
      show ownFin _ _ _ _ _ (T5.setTop (mkF m 17 #[.val (.int p1), .val (.int p3), .val (.int p4), .val (.int p5), .val (.int p6)] [(.ref b1), (.ref b1)]))
      refine ownVia (fun _ k => XS.iconst X5.here hx rfl (hb hby d1_17) k) ?_
      show ownFin _ _ _ _ _ (T5.setTop (mkF m 18 #[.val (.int p1), .val (.int p3), .val (.int p4), .val (.int p5), .val (.int p6)] [(.int (0 : Int32)), (.ref b1), (.ref b1)]))
      refine ownVia (fun _ k => XS.iloadN X5.here hx rfl (hb hby d1_18) rfl k) ?_
      show ownFin _ _ _ _ _ (T5.setTop (mkF m 19 #[.val (.int p1), .val (.int p3), .val (.int p4), .val (.int p5), .val (.int p6)] [(.int p3), (.int (0 : Int32)), (.ref b1), (.ref b1)]))
      refine ownVia (fun _ k => XS.i2b X5.here hx rfl (hb hby d1_19) rfl k) ?_
      show ownFin _ _ _ _ _ (T5.setTop (mkF m 20 #[.val (.int p1), .val (.int p3), .val (.int p4), .val (.int p5), .val (.int p6)] [(.int (p3.toInt8.toInt32)), (.int (0 : Int32)), (.ref b1), (.ref b1)]))
      refine ownBastore X5 hx hZ e5 A_b1 ⟨by decide, by decide⟩ (0) (by decide) (Nat.le_of_ble_eq_true rfl) N0 ge_b1 (hb hby d1_20) ?_
      intro T6 h6 L6 X6 e6 N6 W6 A_b1
      have E_b1 := E_b1.wr W6
      have K0 := K0.wr W6 (Or.inr sz_b1)
      have Z0 := own_szW Z0 W6
      have A_b1 : Arv Z h6 b1 k_b1 .byte (1 : Int32) [(.int (nar .byte (p3.toInt8.toInt32)))] (.int (0 : Int32)) := A_b1
      show ownFin _ _ _ _ _ (T6.setTop (mkF m 21 #[.val (.int p1), .val (.int p3), .val (.int p4), .val (.int p5), .val (.int p6)] [(.ref b1)]))
      have hMN : M = 1 := by omega
      refine ownRetA X6 hx hlk (ty := (.array .byte)) hret rfl (hb hby d1_21) (by decide) (by decide) ?_
      show (Q_own_bytes Z p1 p3 p4 p5 p6 h0 n0 M) (some (.ref b1)) T6.heap _
      rw [e6]
      exact ⟨b1, k_b1, rfl, N6, K0, sz_b1, E_b1, by rw [(own_lit hM (by rw [hMN]; decide) : p1 = (1 : Int32)), hMN]; exact A_b1⟩
    case neg =>
      have hc4I : ¬ (M : Int) = 1 := fun q => hc4 ((own_eqi hM (by decide)).mpr q)
      refine ownVia (fun _ k => XS.icmpYes X0.here hx rfl (pc0 := 10) (pc' := 22) rfl (hb hby d1_10) rfl (feq hc4).2 (by decide) (by decide) k) ?_
      show ownFin _ _ _ _ _ (T0.setTop (mkF m 22 #[.val (.int p1), .val (.int p3), .val (.int p4), .val (.int p5), .val (.int p6)] []))
      refine ownVia (fun _ k => XS.iloadN X0.here hx rfl (hb hby d1_22) rfl k) ?_
      show ownFin _ _ _ _ _ (T0.setTop (mkF m 23 #[.val (.int p1), .val (.int p3), .val (.int p4), .val (.int p5), .val (.int p6)] [(.int p1)]))
      refine ownVia (fun _ k => XS.iconst X0.here hx rfl (hb hby d1_23) k) ?_
      show ownFin _ _ _ _ _ (T0.setTop (mkF m 24 #[.val (.int p1), .val (.int p3), .val (.int p4), .val (.int p5), .val (.int p6)] [(.int (2 : Int32)), (.int p1)]))
      by_cases hc7 : p1 = (2 : Int32)
      case pos =>
        have hc7I : (M : Int) = 2 := (own_eqi hM (by decide)).mp hc7
        refine ownVia (fun _ k => XS.icmpNo X0.here hx rfl (hb hby d1_24) rfl (teq hc7).2 k) ?_
        show ownFin _ _ _ _ _ (T0.setTop (mkF m 27 #[.val (.int p1), .val (.int p3), .val (.int p4), .val (.int p5), .val (.int p6)] []))
        refine ownVia (fun _ k => XS.iconst X0.here hx rfl (hb hby d1_27) k) ?_
        show ownFin _ _ _ _ _ (T0.setTop (mkF m 28 #[.val (.int p1), .val (.int p3), .val (.int p4), .val (.int p5), .val (.int p6)] [(.int (2 : Int32))]))
        refine ownNewP X0 hx hZ (hw _ (List.mem_of_getElem? (i := 6) rfl)) e0 "[B" (by decide) (by decide) (2) (by decide) (4) (by decide) (by decide) (by decide) (by decide) (hb hby d1_28) ?_
        intro T8 h8 k_b1 b1 g8 X8 e8 E8 A_b1 E_b1
        have ge_b1 : n0 ≤ b1 := Nat.le_trans Z0 (Nat.le_of_eq g8.symm)
        have sz_b1 : h0.size ≤ b1 := Nat.le_trans K0.1 (Nat.le_of_eq g8.symm)
        have K0 := K0.ext E8
        have Z0 := own_sz Z0 E8
        have A_b1 : Arv Z h8 b1 k_b1 .byte (2 : Int32) [(.int (0 : Int32)), (.int (0 : Int32))] (.int (0 : Int32)) := A_b1
        show ownFin _ _ _ _ _ (T8.setTop (mkF m 30 #[.val (.int p1), .val (.int p3), .val (.int p4), .val (.int p5), .val (.int p6)] [(.ref b1)]))
        refine ownVia (fun _ k => XS.dup X8.here hx rfl (hb hby d1_30) rfl rfl k) ?_
        show ownFin _ _ _ _ _ (T8.setTop (mkF m 31 #[.val (.int p1), .val (.int p3), .val (.int p4), .val (.int p5), .val (.int p6)] [(.ref b1), (.ref b1)]))
        refine ownVia (fun _ k => XS.iconst X8.here hx rfl (hb hby d1_31) k) ?_
        show ownFin _ _ _ _ _ (T8.setTop (mkF m 32 #[.val (.int p1), .val (.int p3), .val (.int p4), .val (.int p5), .val (.int p6)] [(.int (0 : Int32)), (.ref b1), (.ref b1)]))
        refine ownVia (fun _ k => XS.iloadN X8.here hx rfl (hb hby d1_32) rfl k) ?_
        show ownFin _ _ _ _ _ (T8.setTop (mkF m 33 #[.val (.int p1), .val (.int p3), .val (.int p4), .val (.int p5), .val (.int p6)] [(.int p3), (.int (0 : Int32)), (.ref b1), (.ref b1)]))
        refine ownVia (fun _ k => XS.i2b X8.here hx rfl (hb hby d1_33) rfl k) ?_
        show ownFin _ _ _ _ _ (T8.setTop (mkF m 34 #[.val (.int p1), .val (.int p3), .val (.int p4), .val (.int p5), .val (.int p6)] [(.int (p3.toInt8.toInt32)), (.int (0 : Int32)), (.ref b1), (.ref b1)]))
        refine ownBastore X8 hx hZ e8 A_b1 ⟨by decide, by decide⟩ (0) (by decide) (Nat.le_of_ble_eq_true rfl) N0 ge_b1 (hb hby d1_34) ?_
        intro T9 h9 L9 X9 e9 N9 W9 A_b1
        have E_b1 := E_b1.wr W9
        have K0 := K0.wr W9 (Or.inr sz_b1)
        have Z0 := own_szW Z0 W9
        have A_b1 : Arv Z h9 b1 k_b1 .byte (2 : Int32) [(.int (nar .byte (p3.toInt8.toInt32))), (.int (0 : Int32))] (.int (0 : Int32)) := A_b1
        show ownFin _ _ _ _ _ (T9.setTop (mkF m 35 #[.val (.int p1), .val (.int p3), .val (.int p4), .val (.int p5), .val (.int p6)] [(.ref b1)]))
        refine ownVia (fun _ k => XS.dup X9.here hx rfl (hb hby d1_35) rfl rfl k) ?_
        show ownFin _ _ _ _ _ (T9.setTop (mkF m 36 #[.val (.int p1), .val (.int p3), .val (.int p4), .val (.int p5), .val (.int p6)] [(.ref b1), (.ref b1)]))
        refine ownVia (fun _ k => XS.iconst X9.here hx rfl (hb hby d1_36) k) ?_
        show ownFin _ _ _ _ _ (T9.setTop (mkF m 37 #[.val (.int p1), .val (.int p3), .val (.int p4), .val (.int p5), .val (.int p6)] [(.int (1 : Int32)), (.ref b1), (.ref b1)]))
        refine ownVia (fun _ k => XS.iloadN X9.here hx rfl (hb hby d1_37) rfl k) ?_
        show ownFin _ _ _ _ _ (T9.setTop (mkF m 38 #[.val (.int p1), .val (.int p3), .val (.int p4), .val (.int p5), .val (.int p6)] [(.int p4), (.int (1 : Int32)), (.ref b1), (.ref b1)]))
        refine ownVia (fun _ k => XS.i2b X9.here hx rfl (hb hby d1_38) rfl k) ?_
        show ownFin _ _ _ _ _ (T9.setTop (mkF m 39 #[.val (.int p1), .val (.int p3), .val (.int p4), .val (.int p5), .val (.int p6)] [(.int (p4.toInt8.toInt32)), (.int (1 : Int32)), (.ref b1), (.ref b1)]))
        refine ownBastore X9 hx hZ e9 A_b1 ⟨by decide, by decide⟩ (1) (by decide) (Nat.le_of_ble_eq_true rfl) N9 ge_b1 (hb hby d1_39) ?_
        intro T10 h10 L10 X10 e10 N10 W10 A_b1
        have E_b1 := E_b1.wr W10
        have K0 := K0.wr W10 (Or.inr sz_b1)
        have Z0 := own_szW Z0 W10
        have A_b1 : Arv Z h10 b1 k_b1 .byte (2 : Int32) [(.int (nar .byte (p3.toInt8.toInt32))), (.int (nar .byte (p4.toInt8.toInt32)))] (.int (0 : Int32)) := A_b1
        show ownFin _ _ _ _ _ (T10.setTop (mkF m 40 #[.val (.int p1), .val (.int p3), .val (.int p4), .val (.int p5), .val (.int p6)] [(.ref b1)]))
        have hMN : M = 2 := by omega
        refine ownRetA X10 hx hlk (ty := (.array .byte)) hret rfl (hb hby d1_40) (by decide) (by decide) ?_
        show (Q_own_bytes Z p1 p3 p4 p5 p6 h0 n0 M) (some (.ref b1)) T10.heap _
        rw [e10]
        exact ⟨b1, k_b1, rfl, N10, K0, sz_b1, E_b1, by rw [(own_lit hM (by rw [hMN]; decide) : p1 = (2 : Int32)), hMN]; exact A_b1⟩
      case neg =>
        have hc7I : ¬ (M : Int) = 2 := fun q => hc7 ((own_eqi hM (by decide)).mpr q)
        refine ownVia (fun _ k => XS.icmpYes X0.here hx rfl (pc0 := 24) (pc' := 41) rfl (hb hby d1_24) rfl (feq hc7).2 (by decide) (by decide) k) ?_
        show ownFin _ _ _ _ _ (T0.setTop (mkF m 41 #[.val (.int p1), .val (.int p3), .val (.int p4), .val (.int p5), .val (.int p6)] []))
        refine ownVia (fun _ k => XS.iloadN X0.here hx rfl (hb hby d1_41) rfl k) ?_
        show ownFin _ _ _ _ _ (T0.setTop (mkF m 42 #[.val (.int p1), .val (.int p3), .val (.int p4), .val (.int p5), .val (.int p6)] [(.int p1)]))
        refine ownVia (fun _ k => XS.iconst X0.here hx rfl (hb hby d1_42) k) ?_
        show ownFin _ _ _ _ _ (T0.setTop (mkF m 43 #[.val (.int p1), .val (.int p3), .val (.int p4), .val (.int p5), .val (.int p6)] [(.int (3 : Int32)), (.int p1)]))
        by_cases hc11 : p1 = (3 : Int32)
        case pos =>
          have hc11I : (M : Int) = 3 := (own_eqi hM (by decide)).mp hc11
          refine ownVia (fun _ k => XS.icmpNo X0.here hx rfl (hb hby d1_43) rfl (teq hc11).2 k) ?_
          show ownFin _ _ _ _ _ (T0.setTop (mkF m 46 #[.val (.int p1), .val (.int p3), .val (.int p4), .val (.int p5), .val (.int p6)] []))
          refine ownVia (fun _ k => XS.iconst X0.here hx rfl (hb hby d1_46) k) ?_
          show ownFin _ _ _ _ _ (T0.setTop (mkF m 47 #[.val (.int p1), .val (.int p3), .val (.int p4), .val (.int p5), .val (.int p6)] [(.int (3 : Int32))]))
          refine ownNewP X0 hx hZ (hw _ (List.mem_of_getElem? (i := 6) rfl)) e0 "[B" (by decide) (by decide) (3) (by decide) (4) (by decide) (by decide) (by decide) (by decide) (hb hby d1_47) ?_
          intro T12 h12 k_b1 b1 g12 X12 e12 E12 A_b1 E_b1
          have ge_b1 : n0 ≤ b1 := Nat.le_trans Z0 (Nat.le_of_eq g12.symm)
          have sz_b1 : h0.size ≤ b1 := Nat.le_trans K0.1 (Nat.le_of_eq g12.symm)
          have K0 := K0.ext E12
          have Z0 := own_sz Z0 E12
          have A_b1 : Arv Z h12 b1 k_b1 .byte (3 : Int32) [(.int (0 : Int32)), (.int (0 : Int32)), (.int (0 : Int32))] (.int (0 : Int32)) := A_b1
          show ownFin _ _ _ _ _ (T12.setTop (mkF m 49 #[.val (.int p1), .val (.int p3), .val (.int p4), .val (.int p5), .val (.int p6)] [(.ref b1)]))
          refine ownVia (fun _ k => XS.dup X12.here hx rfl (hb hby d1_49) rfl rfl k) ?_
          show ownFin _ _ _ _ _ (T12.setTop (mkF m 50 #[.val (.int p1), .val (.int p3), .val (.int p4), .val (.int p5), .val (.int p6)] [(.ref b1), (.ref b1)]))
          refine ownVia (fun _ k => XS.iconst X12.here hx rfl (hb hby d1_50) k) ?_
          show ownFin _ _ _ _ _ (T12.setTop (mkF m 51 #[.val (.int p1), .val (.int p3), .val (.int p4), .val (.int p5), .val (.int p6)] [(.int (0 : Int32)), (.ref b1), (.ref b1)]))
          refine ownVia (fun _ k => XS.iloadN X12.here hx rfl (hb hby d1_51) rfl k) ?_
          show ownFin _ _ _ _ _ (T12.setTop (mkF m 52 #[.val (.int p1), .val (.int p3), .val (.int p4), .val (.int p5), .val (.int p6)] [(.int p3), (.int (0 : Int32)), (.ref b1), (.ref b1)]))
          refine ownVia (fun _ k => XS.i2b X12.here hx rfl (hb hby d1_52) rfl k) ?_
          show ownFin _ _ _ _ _ (T12.setTop (mkF m 53 #[.val (.int p1), .val (.int p3), .val (.int p4), .val (.int p5), .val (.int p6)] [(.int (p3.toInt8.toInt32)), (.int (0 : Int32)), (.ref b1), (.ref b1)]))
          refine ownBastore X12 hx hZ e12 A_b1 ⟨by decide, by decide⟩ (0) (by decide) (Nat.le_of_ble_eq_true rfl) N0 ge_b1 (hb hby d1_53) ?_
          intro T13 h13 L13 X13 e13 N13 W13 A_b1
          have E_b1 := E_b1.wr W13
          have K0 := K0.wr W13 (Or.inr sz_b1)
          have Z0 := own_szW Z0 W13
          have A_b1 : Arv Z h13 b1 k_b1 .byte (3 : Int32) [(.int (nar .byte (p3.toInt8.toInt32))), (.int (0 : Int32)), (.int (0 : Int32))] (.int (0 : Int32)) := A_b1
          show ownFin _ _ _ _ _ (T13.setTop (mkF m 54 #[.val (.int p1), .val (.int p3), .val (.int p4), .val (.int p5), .val (.int p6)] [(.ref b1)]))
          refine ownVia (fun _ k => XS.dup X13.here hx rfl (hb hby d1_54) rfl rfl k) ?_
          show ownFin _ _ _ _ _ (T13.setTop (mkF m 55 #[.val (.int p1), .val (.int p3), .val (.int p4), .val (.int p5), .val (.int p6)] [(.ref b1), (.ref b1)]))
          refine ownVia (fun _ k => XS.iconst X13.here hx rfl (hb hby d1_55) k) ?_
          show ownFin _ _ _ _ _ (T13.setTop (mkF m 56 #[.val (.int p1), .val (.int p3), .val (.int p4), .val (.int p5), .val (.int p6)] [(.int (1 : Int32)), (.ref b1), (.ref b1)]))
          refine ownVia (fun _ k => XS.iloadN X13.here hx rfl (hb hby d1_56) rfl k) ?_
          show ownFin _ _ _ _ _ (T13.setTop (mkF m 57 #[.val (.int p1), .val (.int p3), .val (.int p4), .val (.int p5), .val (.int p6)] [(.int p4), (.int (1 : Int32)), (.ref b1), (.ref b1)]))
          refine ownVia (fun _ k => XS.i2b X13.here hx rfl (hb hby d1_57) rfl k) ?_
          show ownFin _ _ _ _ _ (T13.setTop (mkF m 58 #[.val (.int p1), .val (.int p3), .val (.int p4), .val (.int p5), .val (.int p6)] [(.int (p4.toInt8.toInt32)), (.int (1 : Int32)), (.ref b1), (.ref b1)]))
          refine ownBastore X13 hx hZ e13 A_b1 ⟨by decide, by decide⟩ (1) (by decide) (Nat.le_of_ble_eq_true rfl) N13 ge_b1 (hb hby d1_58) ?_
          intro T14 h14 L14 X14 e14 N14 W14 A_b1
          have E_b1 := E_b1.wr W14
          have K0 := K0.wr W14 (Or.inr sz_b1)
          have Z0 := own_szW Z0 W14
          have A_b1 : Arv Z h14 b1 k_b1 .byte (3 : Int32) [(.int (nar .byte (p3.toInt8.toInt32))), (.int (nar .byte (p4.toInt8.toInt32))), (.int (0 : Int32))] (.int (0 : Int32)) := A_b1
          show ownFin _ _ _ _ _ (T14.setTop (mkF m 59 #[.val (.int p1), .val (.int p3), .val (.int p4), .val (.int p5), .val (.int p6)] [(.ref b1)]))
          refine ownVia (fun _ k => XS.dup X14.here hx rfl (hb hby d1_59) rfl rfl k) ?_
          show ownFin _ _ _ _ _ (T14.setTop (mkF m 60 #[.val (.int p1), .val (.int p3), .val (.int p4), .val (.int p5), .val (.int p6)] [(.ref b1), (.ref b1)]))
          refine ownVia (fun _ k => XS.iconst X14.here hx rfl (hb hby d1_60) k) ?_
          show ownFin _ _ _ _ _ (T14.setTop (mkF m 61 #[.val (.int p1), .val (.int p3), .val (.int p4), .val (.int p5), .val (.int p6)] [(.int (2 : Int32)), (.ref b1), (.ref b1)]))
          refine ownVia (fun _ k => XS.iloadN X14.here hx rfl (hb hby d1_61) rfl k) ?_
          show ownFin _ _ _ _ _ (T14.setTop (mkF m 62 #[.val (.int p1), .val (.int p3), .val (.int p4), .val (.int p5), .val (.int p6)] [(.int p5), (.int (2 : Int32)), (.ref b1), (.ref b1)]))
          refine ownVia (fun _ k => XS.i2b X14.here hx rfl (hb hby d1_62) rfl k) ?_
          show ownFin _ _ _ _ _ (T14.setTop (mkF m 63 #[.val (.int p1), .val (.int p3), .val (.int p4), .val (.int p5), .val (.int p6)] [(.int (p5.toInt8.toInt32)), (.int (2 : Int32)), (.ref b1), (.ref b1)]))
          refine ownBastore X14 hx hZ e14 A_b1 ⟨by decide, by decide⟩ (2) (by decide) (Nat.le_of_ble_eq_true rfl) N14 ge_b1 (hb hby d1_63) ?_
          intro T15 h15 L15 X15 e15 N15 W15 A_b1
          have E_b1 := E_b1.wr W15
          have K0 := K0.wr W15 (Or.inr sz_b1)
          have Z0 := own_szW Z0 W15
          have A_b1 : Arv Z h15 b1 k_b1 .byte (3 : Int32) [(.int (nar .byte (p3.toInt8.toInt32))), (.int (nar .byte (p4.toInt8.toInt32))), (.int (nar .byte (p5.toInt8.toInt32)))] (.int (0 : Int32)) := A_b1
          show ownFin _ _ _ _ _ (T15.setTop (mkF m 64 #[.val (.int p1), .val (.int p3), .val (.int p4), .val (.int p5), .val (.int p6)] [(.ref b1)]))
          have hMN : M = 3 := by omega
          refine ownRetA X15 hx hlk (ty := (.array .byte)) hret rfl (hb hby d1_64) (by decide) (by decide) ?_
          show (Q_own_bytes Z p1 p3 p4 p5 p6 h0 n0 M) (some (.ref b1)) T15.heap _
          rw [e15]
          exact ⟨b1, k_b1, rfl, N15, K0, sz_b1, E_b1, by rw [(own_lit hM (by rw [hMN]; decide) : p1 = (3 : Int32)), hMN]; exact A_b1⟩
        case neg =>
          have hc11I : ¬ (M : Int) = 3 := fun q => hc11 ((own_eqi hM (by decide)).mpr q)
          refine ownVia (fun _ k => XS.icmpYes X0.here hx rfl (pc0 := 43) (pc' := 65) rfl (hb hby d1_43) rfl (feq hc11).2 (by decide) (by decide) k) ?_
          show ownFin _ _ _ _ _ (T0.setTop (mkF m 65 #[.val (.int p1), .val (.int p3), .val (.int p4), .val (.int p5), .val (.int p6)] []))
          refine ownVia (fun _ k => XS.iconst X0.here hx rfl (hb hby d1_65) k) ?_
          show ownFin _ _ _ _ _ (T0.setTop (mkF m 66 #[.val (.int p1), .val (.int p3), .val (.int p4), .val (.int p5), .val (.int p6)] [(.int (4 : Int32))]))
          refine ownNewP X0 hx hZ (hw _ (List.mem_of_getElem? (i := 6) rfl)) e0 "[B" (by decide) (by decide) (4) (by decide) (4) (by decide) (by decide) (by decide) (by decide) (hb hby d1_66) ?_
          intro T16 h16 k_b1 b1 g16 X16 e16 E16 A_b1 E_b1
          have ge_b1 : n0 ≤ b1 := Nat.le_trans Z0 (Nat.le_of_eq g16.symm)
          have sz_b1 : h0.size ≤ b1 := Nat.le_trans K0.1 (Nat.le_of_eq g16.symm)
          have K0 := K0.ext E16
          have Z0 := own_sz Z0 E16
          have A_b1 : Arv Z h16 b1 k_b1 .byte (4 : Int32) [(.int (0 : Int32)), (.int (0 : Int32)), (.int (0 : Int32)), (.int (0 : Int32))] (.int (0 : Int32)) := A_b1
          show ownFin _ _ _ _ _ (T16.setTop (mkF m 68 #[.val (.int p1), .val (.int p3), .val (.int p4), .val (.int p5), .val (.int p6)] [(.ref b1)]))
          refine ownVia (fun _ k => XS.dup X16.here hx rfl (hb hby d1_68) rfl rfl k) ?_
          show ownFin _ _ _ _ _ (T16.setTop (mkF m 69 #[.val (.int p1), .val (.int p3), .val (.int p4), .val (.int p5), .val (.int p6)] [(.ref b1), (.ref b1)]))
          refine ownVia (fun _ k => XS.iconst X16.here hx rfl (hb hby d1_69) k) ?_
          show ownFin _ _ _ _ _ (T16.setTop (mkF m 70 #[.val (.int p1), .val (.int p3), .val (.int p4), .val (.int p5), .val (.int p6)] [(.int (0 : Int32)), (.ref b1), (.ref b1)]))
          refine ownVia (fun _ k => XS.iloadN X16.here hx rfl (hb hby d1_70) rfl k) ?_
          show ownFin _ _ _ _ _ (T16.setTop (mkF m 71 #[.val (.int p1), .val (.int p3), .val (.int p4), .val (.int p5), .val (.int p6)] [(.int p3), (.int (0 : Int32)), (.ref b1), (.ref b1)]))
          refine ownVia (fun _ k => XS.i2b X16.here hx rfl (hb hby d1_71) rfl k) ?_
          show ownFin _ _ _ _ _ (T16.setTop (mkF m 72 #[.val (.int p1), .val (.int p3), .val (.int p4), .val (.int p5), .val (.int p6)] [(.int (p3.toInt8.toInt32)), (.int (0 : Int32)), (.ref b1), (.ref b1)]))
          refine ownBastore X16 hx hZ e16 A_b1 ⟨by decide, by decide⟩ (0) (by decide) (Nat.le_of_ble_eq_true rfl) N0 ge_b1 (hb hby d1_72) ?_
          intro T17 h17 L17 X17 e17 N17 W17 A_b1
          have E_b1 := E_b1.wr W17
          have K0 := K0.wr W17 (Or.inr sz_b1)
          have Z0 := own_szW Z0 W17
          have A_b1 : Arv Z h17 b1 k_b1 .byte (4 : Int32) [(.int (nar .byte (p3.toInt8.toInt32))), (.int (0 : Int32)), (.int (0 : Int32)), (.int (0 : Int32))] (.int (0 : Int32)) := A_b1
          show ownFin _ _ _ _ _ (T17.setTop (mkF m 73 #[.val (.int p1), .val (.int p3), .val (.int p4), .val (.int p5), .val (.int p6)] [(.ref b1)]))
          refine ownVia (fun _ k => XS.dup X17.here hx rfl (hb hby d1_73) rfl rfl k) ?_
          show ownFin _ _ _ _ _ (T17.setTop (mkF m 74 #[.val (.int p1), .val (.int p3), .val (.int p4), .val (.int p5), .val (.int p6)] [(.ref b1), (.ref b1)]))
          refine ownVia (fun _ k => XS.iconst X17.here hx rfl (hb hby d1_74) k) ?_
          show ownFin _ _ _ _ _ (T17.setTop (mkF m 75 #[.val (.int p1), .val (.int p3), .val (.int p4), .val (.int p5), .val (.int p6)] [(.int (1 : Int32)), (.ref b1), (.ref b1)]))
          refine ownVia (fun _ k => XS.iloadN X17.here hx rfl (hb hby d1_75) rfl k) ?_
          show ownFin _ _ _ _ _ (T17.setTop (mkF m 76 #[.val (.int p1), .val (.int p3), .val (.int p4), .val (.int p5), .val (.int p6)] [(.int p4), (.int (1 : Int32)), (.ref b1), (.ref b1)]))
          refine ownVia (fun _ k => XS.i2b X17.here hx rfl (hb hby d1_76) rfl k) ?_
          show ownFin _ _ _ _ _ (T17.setTop (mkF m 77 #[.val (.int p1), .val (.int p3), .val (.int p4), .val (.int p5), .val (.int p6)] [(.int (p4.toInt8.toInt32)), (.int (1 : Int32)), (.ref b1), (.ref b1)]))
          refine ownBastore X17 hx hZ e17 A_b1 ⟨by decide, by decide⟩ (1) (by decide) (Nat.le_of_ble_eq_true rfl) N17 ge_b1 (hb hby d1_77) ?_
          intro T18 h18 L18 X18 e18 N18 W18 A_b1
          have E_b1 := E_b1.wr W18
          have K0 := K0.wr W18 (Or.inr sz_b1)
          have Z0 := own_szW Z0 W18
          have A_b1 : Arv Z h18 b1 k_b1 .byte (4 : Int32) [(.int (nar .byte (p3.toInt8.toInt32))), (.int (nar .byte (p4.toInt8.toInt32))), (.int (0 : Int32)), (.int (0 : Int32))] (.int (0 : Int32)) := A_b1
          show ownFin _ _ _ _ _ (T18.setTop (mkF m 78 #[.val (.int p1), .val (.int p3), .val (.int p4), .val (.int p5), .val (.int p6)] [(.ref b1)]))
          refine ownVia (fun _ k => XS.dup X18.here hx rfl (hb hby d1_78) rfl rfl k) ?_
          show ownFin _ _ _ _ _ (T18.setTop (mkF m 79 #[.val (.int p1), .val (.int p3), .val (.int p4), .val (.int p5), .val (.int p6)] [(.ref b1), (.ref b1)]))
          refine ownVia (fun _ k => XS.iconst X18.here hx rfl (hb hby d1_79) k) ?_
          show ownFin _ _ _ _ _ (T18.setTop (mkF m 80 #[.val (.int p1), .val (.int p3), .val (.int p4), .val (.int p5), .val (.int p6)] [(.int (2 : Int32)), (.ref b1), (.ref b1)]))
          refine ownVia (fun _ k => XS.iloadN X18.here hx rfl (hb hby d1_80) rfl k) ?_
          show ownFin _ _ _ _ _ (T18.setTop (mkF m 81 #[.val (.int p1), .val (.int p3), .val (.int p4), .val (.int p5), .val (.int p6)] [(.int p5), (.int (2 : Int32)), (.ref b1), (.ref b1)]))
          refine ownVia (fun _ k => XS.i2b X18.here hx rfl (hb hby d1_81) rfl k) ?_
          show ownFin _ _ _ _ _ (T18.setTop (mkF m 82 #[.val (.int p1), .val (.int p3), .val (.int p4), .val (.int p5), .val (.int p6)] [(.int (p5.toInt8.toInt32)), (.int (2 : Int32)), (.ref b1), (.ref b1)]))
          refine ownBastore X18 hx hZ e18 A_b1 ⟨by decide, by decide⟩ (2) (by decide) (Nat.le_of_ble_eq_true rfl) N18 ge_b1 (hb hby d1_82) ?_
          intro T19 h19 L19 X19 e19 N19 W19 A_b1
          have E_b1 := E_b1.wr W19
          have K0 := K0.wr W19 (Or.inr sz_b1)
          have Z0 := own_szW Z0 W19
          have A_b1 : Arv Z h19 b1 k_b1 .byte (4 : Int32) [(.int (nar .byte (p3.toInt8.toInt32))), (.int (nar .byte (p4.toInt8.toInt32))), (.int (nar .byte (p5.toInt8.toInt32))), (.int (0 : Int32))] (.int (0 : Int32)) := A_b1
          show ownFin _ _ _ _ _ (T19.setTop (mkF m 83 #[.val (.int p1), .val (.int p3), .val (.int p4), .val (.int p5), .val (.int p6)] [(.ref b1)]))
          refine ownVia (fun _ k => XS.dup X19.here hx rfl (hb hby d1_83) rfl rfl k) ?_
          show ownFin _ _ _ _ _ (T19.setTop (mkF m 84 #[.val (.int p1), .val (.int p3), .val (.int p4), .val (.int p5), .val (.int p6)] [(.ref b1), (.ref b1)]))
          refine ownVia (fun _ k => XS.iconst X19.here hx rfl (hb hby d1_84) k) ?_
          show ownFin _ _ _ _ _ (T19.setTop (mkF m 85 #[.val (.int p1), .val (.int p3), .val (.int p4), .val (.int p5), .val (.int p6)] [(.int (3 : Int32)), (.ref b1), (.ref b1)]))
          refine ownVia (fun _ k => XS.iload X19.here hx rfl (hb hby d1_85) rfl k) ?_
          show ownFin _ _ _ _ _ (T19.setTop (mkF m 87 #[.val (.int p1), .val (.int p3), .val (.int p4), .val (.int p5), .val (.int p6)] [(.int p6), (.int (3 : Int32)), (.ref b1), (.ref b1)]))
          refine ownVia (fun _ k => XS.i2b X19.here hx rfl (hb hby d1_87) rfl k) ?_
          show ownFin _ _ _ _ _ (T19.setTop (mkF m 88 #[.val (.int p1), .val (.int p3), .val (.int p4), .val (.int p5), .val (.int p6)] [(.int (p6.toInt8.toInt32)), (.int (3 : Int32)), (.ref b1), (.ref b1)]))
          refine ownBastore X19 hx hZ e19 A_b1 ⟨by decide, by decide⟩ (3) (by decide) (Nat.le_of_ble_eq_true rfl) N19 ge_b1 (hb hby d1_88) ?_
          intro T20 h20 L20 X20 e20 N20 W20 A_b1
          have E_b1 := E_b1.wr W20
          have K0 := K0.wr W20 (Or.inr sz_b1)
          have Z0 := own_szW Z0 W20
          have A_b1 : Arv Z h20 b1 k_b1 .byte (4 : Int32) [(.int (nar .byte (p3.toInt8.toInt32))), (.int (nar .byte (p4.toInt8.toInt32))), (.int (nar .byte (p5.toInt8.toInt32))), (.int (nar .byte (p6.toInt8.toInt32)))] (.int (0 : Int32)) := A_b1
          show ownFin _ _ _ _ _ (T20.setTop (mkF m 89 #[.val (.int p1), .val (.int p3), .val (.int p4), .val (.int p5), .val (.int p6)] [(.ref b1)]))
          have hMN : M = 4 := by omega
          refine ownRetA X20 hx hlk (ty := (.array .byte)) hret rfl (hb hby d1_89) (by decide) (by decide) ?_
          show (Q_own_bytes Z p1 p3 p4 p5 p6 h0 n0 M) (some (.ref b1)) T20.heap _
          rw [e20]
          exact ⟨b1, k_b1, rfl, N20, K0, sz_b1, E_b1, by rw [(own_lit hM (by rw [hMN]; decide) : p1 = (4 : Int32)), hMN]; exact A_b1⟩
theorem d2_0 : decode prog_8_method_1_code 0 = .ok (.aload_n 0, 1) := by decide +kernel
theorem d2_1 : decode prog_8_method_1_code 1 = .ok (.invokespecial 1, 3) := by decide +kernel
theorem d2_4 : decode prog_8_method_1_code 4 = .ok (.iload_n 1, 1) := by decide +kernel
theorem d2_5 : decode prog_8_method_1_code 5 = .ok (.ifCond .lt 9, 3) := by decide +kernel
theorem d2_8 : decode prog_8_method_1_code 8 = .ok (.iload_n 1, 1) := by decide +kernel
theorem d2_9 : decode prog_8_method_1_code 9 = .ok (.ldc 9, 2) := by decide +kernel
theorem d2_11 : decode prog_8_method_1_code 11 = .ok (.if_icmp .le 17, 3) := by decide +kernel
theorem d2_14 : decode prog_8_method_1_code 14 = .ok (.new 10, 3) := by decide +kernel
theorem d2_17 : decode prog_8_method_1_code 17 = .ok (.dup, 1) := by decide +kernel
theorem d2_18 : decode prog_8_method_1_code 18 = .ok (.iload_n 1, 1) := by decide +kernel
theorem d2_19 : decode prog_8_method_1_code 19 = .ok (.invokedynamic 12, 5) := by decide +kernel
theorem d2_24 : decode prog_8_method_1_code 24 = .ok (.invokespecial 16, 3) := by decide +kernel
theorem d2_27 : decode prog_8_method_1_code 27 = .ok (.athrow, 1) := by decide +kernel
theorem d2_28 : decode prog_8_method_1_code 28 = .ok (.aload_n 2, 1) := by decide +kernel
theorem d2_29 : decode prog_8_method_1_code 29 = .ok (.arraylength, 1) := by decide +kernel
theorem d2_30 : decode prog_8_method_1_code 30 = .ok (.ldc 9, 2) := by decide +kernel
theorem d2_32 : decode prog_8_method_1_code 32 = .ok (.if_icmp .le 18, 3) := by decide +kernel
theorem d2_35 : decode prog_8_method_1_code 35 = .ok (.new 10, 3) := by decide +kernel
theorem d2_38 : decode prog_8_method_1_code 38 = .ok (.dup, 1) := by decide +kernel
theorem d2_39 : decode prog_8_method_1_code 39 = .ok (.aload_n 2, 1) := by decide +kernel
theorem d2_40 : decode prog_8_method_1_code 40 = .ok (.arraylength, 1) := by decide +kernel
theorem d2_41 : decode prog_8_method_1_code 41 = .ok (.invokedynamic 19, 5) := by decide +kernel
theorem d2_46 : decode prog_8_method_1_code 46 = .ok (.invokespecial 16, 3) := by decide +kernel
theorem d2_49 : decode prog_8_method_1_code 49 = .ok (.athrow, 1) := by decide +kernel
theorem d2_50 : decode prog_8_method_1_code 50 = .ok (.aload_n 0, 1) := by decide +kernel
theorem d2_51 : decode prog_8_method_1_code 51 = .ok (.iload_n 1, 1) := by decide +kernel
theorem d2_52 : decode prog_8_method_1_code 52 = .ok (.putfield 20, 3) := by decide +kernel
theorem d2_55 : decode prog_8_method_1_code 55 = .ok (.aload_n 0, 1) := by decide +kernel
theorem d2_56 : decode prog_8_method_1_code 56 = .ok (.aload_n 2, 1) := by decide +kernel
theorem d2_57 : decode prog_8_method_1_code 57 = .ok (.invokevirtual 24, 3) := by decide +kernel
theorem d2_60 : decode prog_8_method_1_code 60 = .ok (.checkcast 25, 3) := by decide +kernel
theorem d2_63 : decode prog_8_method_1_code 63 = .ok (.putfield 30, 3) := by decide +kernel
theorem d2_66 : decode prog_8_method_1_code 66 = .ok (.return_, 1) := by decide +kernel
theorem own_pn1 : plainName "com/example/cairn/cairn/ccnx/Tlv" = true := by first | (simp [plainName, overriddenIn]; done) | decide +kernel
theorem own_ef21 (m : MethodId) (a1 : Addr) (p1 : Int32) (a2 : Addr) : entryFrame m #[(.ref a1), (.int p1), (.ref a2)] 3 = mkF m 0 #[.val (.ref a1), .val (.int p1), .val (.ref a2)] [] := by first | (simp [entryFrame, mkF, argsToLocals, Value.category]; done) | rfl
def Q_own_init (Z : State) (a1 : Addr) (p1 : Int32) (a2 : Addr) (h0 : Heap) (n0 : Nat) (k_a2 : ClassId) (z : Int32) (vs : List Value) (lz : Nat) : Option Value → Heap → List Loc → Prop := fun v h L => v = none ∧ Fr n0 L ∧ Keep h0 h [a1] ∧ ∃ b, h0.size ≤ b ∧ Fld Z h a1 "com/example/cairn/cairn/ccnx/Tlv" "type" "I" (.int p1) ∧ Fld Z h a1 "com/example/cairn/cairn/ccnx/Tlv" "value" "[B" (.ref b) ∧ Arv Z h b k_a2 .byte z vs (.int (0 : Int32))
set_option maxRecDepth 65536 in
set_option maxHeartbeats 40000000 in
theorem own_init (l : Launch) (Z : State) (a0 : Array Value) (hw : ∀ d ∈ tables_1, d.before a0 Z = true)  (a1 : Addr) (p1 : Int32) (a2 : Addr) (h0 : Heap) (n0 : Nat) (k_a2 : ClassId) (z : Int32) (vs : List Value) (lz : Nat) (Z0 : n0 ≤ h0.size) (F_a1_type : Fld Z h0 a1 "com/example/cairn/cairn/ccnx/Tlv" "type" "I" (.int (0 : Int32))) (F_a1_value : Fld Z h0 a1 "com/example/cairn/cairn/ccnx/Tlv" "value" "[B" .null) (E_a1 : Exa Z h0 a1 "com/example/cairn/cairn/ccnx/Tlv") (ge_a1 : n0 ≤ a1) (A_a2 : Arv Z h0 a2 k_a2 .byte z vs (.int (0 : Int32))) (E_a2 : Exa Z h0 a2 "[B") (ne_a1_a2 : a1 ≠ a2) (hp : 0 ≤ p1.toInt ∧ p1.toInt ≤ 65535) (hz : z.toInt = (lz : Int)) (hlz : lz ≤ 4) :
    ownMet l Z (⟨"com/example/cairn/cairn/ccnx/Tlv", "<init>", "(I[B)V"⟩ : MethodName) prog_8_method_1_code 3 none [] ({ frames := 1, cells := 1, slots := 4, locals := 20 } : Room) #[(.ref a1), (.int p1), (.ref a2)] h0 (Q_own_init Z a1 p1 a2 h0 n0 k_a2 z vs lz) := by
  refine ownBody (plainFor_of_name own_pn1) ?_
  intro p e s m below meth c T0 hx hby hml hret hlk hZ hown hnm X0 e0
  have N0 : Fr n0 [] := Fr.nil n0
  refine ownVia (fun _ k => castTop (own_ef21 m a1 p1 a2) k) ?_
  show ownFin _ _ _ _ _ (T0.setTop (mkF m 0 #[.val (.ref a1), .val (.int p1), .val (.ref a2)] []))
  have K0 : Keep h0 h0 [a1] := Keep.refl _ _
  refine ownVia (fun _ k => XS.aloadN X0.here hx rfl (hb hby d2_0) rfl rfl k) ?_
  show ownFin _ _ _ _ _ (T0.setTop (mkF m 1 #[.val (.ref a1), .val (.int p1), .val (.ref a2)] [(.ref a1)]))
  obtain ⟨T22, X22, e22, st22⟩ := initO X0 hx hZ hown (hw _ (List.mem_of_getElem? (i := 13) rfl)) (hw _ (List.mem_of_getElem? (i := 14) rfl)) (hw _ (List.mem_of_getElem? (i := 15) rfl)) e0 (g := (mkF m 1 #[.val (.ref a1), .val (.int p1), .val (.ref a2)] [(.ref a1)])) rfl (by rw [hml]; rfl) rfl (hb hby d2_1) (by decide) (W := 0) (by show 2 * 0 + _ ≤ _; exact Nat.le_of_eq rfl) (by decide)
  refine ownVia st22 ?_
  show ownFin _ _ _ _ _ (T22.setTop (mkF m 4 #[.val (.ref a1), .val (.int p1), .val (.ref a2)] []))
  refine ownVia (fun _ k => XS.iloadN X22.here hx rfl (hb hby d2_4) rfl k) ?_
  show ownFin _ _ _ _ _ (T22.setTop (mkF m 5 #[.val (.ref a1), .val (.int p1), .val (.ref a2)] [(.int p1)]))
  refine ownVia (fun _ k => XS.ifNo X22.here hx rfl (hb hby d2_5) rfl ((if0 _ _).trans (flt (fun q => by have := (own_lti rfl (by decide : (0 : Int32).toInt = 0)).mp q; omega)).1) k) ?_
  show ownFin _ _ _ _ _ (T22.setTop (mkF m 8 #[.val (.ref a1), .val (.int p1), .val (.ref a2)] []))
  refine ownVia (fun _ k => XS.iloadN X22.here hx rfl (hb hby d2_8) rfl k) ?_
  show ownFin _ _ _ _ _ (T22.setTop (mkF m 9 #[.val (.ref a1), .val (.int p1), .val (.ref a2)] [(.int p1)]))
  refine ownVia (fun _ k => X22.ldcInt hx hown (mvT hZ (hw _ (List.mem_of_getElem? (i := 16) rfl))) (g := (mkF m 9 #[.val (.ref a1), .val (.int p1), .val (.ref a2)] [(.int p1)])) rfl (hb hby d2_9) _ k) ?_
  show ownFin _ _ _ _ _ (T22.setTop (mkF m 11 #[.val (.ref a1), .val (.int p1), .val (.ref a2)] [(.int (65535 : Int32)), (.int p1)]))
  refine ownVia (fun _ k => XS.icmpYes X22.here hx rfl (pc0 := 11) (pc' := 28) rfl (hb hby d2_11) rfl (flt (fun q => by have := (own_lti (by decide : (65535 : Int32).toInt = 65535) rfl).mp q; omega)).2.2.2 (by decide) (by decide) k) ?_
  show ownFin _ _ _ _ _ (T22.setTop (mkF m 28 #[.val (.ref a1), .val (.int p1), .val (.ref a2)] []))
  refine ownVia (fun _ k => XS.aloadN X22.here hx rfl (hb hby d2_28) rfl rfl k) ?_
  show ownFin _ _ _ _ _ (T22.setTop (mkF m 29 #[.val (.ref a1), .val (.int p1), .val (.ref a2)] [(.ref a2)]))
  refine ownLen X22 hx hZ e22 A_a2 (hb hby d2_29) ?_
  show ownFin _ _ _ _ _ (T22.setTop (mkF m 30 #[.val (.ref a1), .val (.int p1), .val (.ref a2)] [(.int z)]))
  refine ownVia (fun _ k => X22.ldcInt hx hown (mvT hZ (hw _ (List.mem_of_getElem? (i := 16) rfl))) (g := (mkF m 30 #[.val (.ref a1), .val (.int p1), .val (.ref a2)] [(.int z)])) rfl (hb hby d2_30) _ k) ?_
  show ownFin _ _ _ _ _ (T22.setTop (mkF m 32 #[.val (.ref a1), .val (.int p1), .val (.ref a2)] [(.int (65535 : Int32)), (.int z)]))
  refine ownVia (fun _ k => XS.icmpYes X22.here hx rfl (pc0 := 32) (pc' := 50) rfl (hb hby d2_32) rfl (flt (fun q => by have := (own_lti (by decide : (65535 : Int32).toInt = 65535) hz).mp q; omega)).2.2.2 (by decide) (by decide) k) ?_
  show ownFin _ _ _ _ _ (T22.setTop (mkF m 50 #[.val (.ref a1), .val (.int p1), .val (.ref a2)] []))
  refine ownVia (fun _ k => XS.aloadN X22.here hx rfl (hb hby d2_50) rfl rfl k) ?_
  show ownFin _ _ _ _ _ (T22.setTop (mkF m 51 #[.val (.ref a1), .val (.int p1), .val (.ref a2)] [(.ref a1)]))
  refine ownVia (fun _ k => XS.iloadN X22.here hx rfl (hb hby d2_51) rfl k) ?_
  show ownFin _ _ _ _ _ (T22.setTop (mkF m 52 #[.val (.ref a1), .val (.int p1), .val (.ref a2)] [(.int p1), (.ref a1)]))
  obtain ⟨T23, h23, X23, e23, W23, st23⟩ := putF X22 hx hZ hown (host := "") (Or.inl (hw _ (List.mem_of_getElem? (i := 17) rfl))) Via.refl e22 F_a1_type E_a1 (Or.inr ⟨(hw _ (List.mem_of_getElem? (i := 18) rfl)), rfl, hnm⟩) (hw _ (List.mem_of_getElem? (i := 8) rfl)) (ty := .int) (by decide) rfl rfl (g := (mkF m 52 #[.val (.ref a1), .val (.int p1), .val (.ref a2)] [(.int p1), (.ref a1)])) rfl rfl (hb hby d2_52)
  have N23 := Fr.snoc X23 N0 ge_a1
  have F_a1_type := F_a1_type.same W23
  have F_a1_value := F_a1_value.other W23 (Or.inr (slot_ne (Or.inr (hw _ (List.mem_of_getElem? (i := 29) rfl))) (Or.inr (hw _ (List.mem_of_getElem? (i := 18) rfl))) (by decide) (t := (.array .byte)) (t' := .int) (by decide) (by decide)))
  have E_a1 := E_a1.wr W23
  have A_a2 := A_a2.other W23 (Ne.symm ne_a1_a2)
  have E_a2 := E_a2.wr W23
  have K0 := K0.wr W23 (Or.inl (List.mem_of_getElem? (i := 0) rfl))
  have Z0 := own_szW Z0 W23
  refine ownVia st23 ?_
  show ownFin _ _ _ _ _ (T23.setTop (mkF m 55 #[.val (.ref a1), .val (.int p1), .val (.ref a2)] []))
  refine ownVia (fun _ k => XS.aloadN X23.here hx rfl (hb hby d2_55) rfl rfl k) ?_
  show ownFin _ _ _ _ _ (T23.setTop (mkF m 56 #[.val (.ref a1), .val (.int p1), .val (.ref a2)] [(.ref a1)]))
  refine ownVia (fun _ k => XS.aloadN X23.here hx rfl (hb hby d2_56) rfl rfl k) ?_
  show ownFin _ _ _ _ _ (T23.setTop (mkF m 57 #[.val (.ref a1), .val (.int p1), .val (.ref a2)] [(.ref a2), (.ref a1)]))
  refine ownClone X23 hx hZ hown (hw _ (List.mem_of_getElem? (i := 19) rfl)) (hw _ (List.mem_of_getElem? (i := 20) rfl)) (hw _ (List.mem_of_getElem? (i := 24) rfl)) (hw _ (List.mem_of_getElem? (i := 22) rfl)) (hw _ (List.mem_of_getElem? (i := 23) rfl)) (hw _ (List.mem_of_getElem? (i := 25) rfl)) e23 A_a2 E_a2 (by rw [hml]; rfl) (hb hby d2_57) (by decide) 1 rfl (by decide) (4) (by rw [own_clamp hz]; exact hlz) (by decide) (by decide) ?_
  intro T24 h24 b1 g24 X24 e24 E24 A_b1 E_b1
  have ne_a1_b1 : a1 ≠ b1 := Nat.ne_of_lt (Nat.lt_of_lt_of_le F_a1_type.lt (Nat.le_of_eq g24.symm))
  have ne_a2_b1 : a2 ≠ b1 := Nat.ne_of_lt (Nat.lt_of_lt_of_le A_a2.lt (Nat.le_of_eq g24.symm))
  have ge_b1 : n0 ≤ b1 := Nat.le_trans Z0 (Nat.le_of_eq g24.symm)
  have sz_b1 : h0.size ≤ b1 := Nat.le_trans K0.1 (Nat.le_of_eq g24.symm)
  have F_a1_type := F_a1_type.ext E24
  have F_a1_value := F_a1_value.ext E24
  have E_a1 := E_a1.ext E24
  have A_a2 := A_a2.ext E24
  have E_a2 := E_a2.ext E24
  have K0 := K0.ext E24
  have Z0 := own_sz Z0 E24
  show ownFin _ _ _ _ _ (T24.setTop (mkF m 60 #[.val (.ref a1), .val (.int p1), .val (.ref a2)] [(.ref b1), (.ref a1)]))
  refine ownCast X24 hx hZ hown (hw _ (List.mem_of_getElem? (i := 26) rfl)) e24 (Ins.self E_b1) (hb hby d2_60) ?_
  intro T25 X25 e25
  show ownFin _ _ _ _ _ (T25.setTop (mkF m 63 #[.val (.ref a1), .val (.int p1), .val (.ref a2)] [(.ref b1), (.ref a1)]))
  obtain ⟨T26, h26, X26, e26, W26, st26⟩ := putF X25 hx hZ hown (host := "") (Or.inl (hw _ (List.mem_of_getElem? (i := 28) rfl))) Via.refl e25 F_a1_value E_a1 (Or.inr ⟨(hw _ (List.mem_of_getElem? (i := 29) rfl)), rfl, hnm⟩) (hw _ (List.mem_of_getElem? (i := 8) rfl)) (ty := (.array .byte)) (by decide) rfl rfl (g := (mkF m 63 #[.val (.ref a1), .val (.int p1), .val (.ref a2)] [(.ref b1), (.ref a1)])) rfl rfl (hb hby d2_63)
  have N26 := Fr.snoc X26 N23 ge_a1
  have F_a1_value := F_a1_value.same W26
  have F_a1_type := F_a1_type.other W26 (Or.inr (slot_ne (Or.inr (hw _ (List.mem_of_getElem? (i := 18) rfl))) (Or.inr (hw _ (List.mem_of_getElem? (i := 29) rfl))) (by decide) (t := .int) (t' := (.array .byte)) (by decide) (by decide)))
  have E_a1 := E_a1.wr W26
  have A_a2 := A_a2.other W26 (Ne.symm ne_a1_a2)
  have E_a2 := E_a2.wr W26
  have A_b1 := A_b1.other W26 (Ne.symm ne_a1_b1)
  have E_b1 := E_b1.wr W26
  have K0 := K0.wr W26 (Or.inl (List.mem_of_getElem? (i := 0) rfl))
  have Z0 := own_szW Z0 W26
  refine ownVia st26 ?_
  show ownFin _ _ _ _ _ (T26.setTop (mkF m 66 #[.val (.ref a1), .val (.int p1), .val (.ref a2)] []))
  refine ownRetV X26 hx hlk hret (hb hby d2_66) (by decide) (by decide) ?_
  show (Q_own_init Z a1 p1 a2 h0 n0 k_a2 z vs lz) none T26.heap _
  rw [e26]
  exact ⟨rfl, N26, K0, b1, sz_b1, F_a1_type, F_a1_value, A_b1⟩
theorem d4_0 : decode prog_8_method_17_code 0 = .ok (.aload_n 0, 1) := by decide +kernel
theorem d4_1 : decode prog_8_method_17_code 1 = .ok (.getfield 20, 3) := by decide +kernel
theorem d4_4 : decode prog_8_method_17_code 4 = .ok (.istore_n 1, 1) := by decide +kernel
theorem d4_5 : decode prog_8_method_17_code 5 = .ok (.aload_n 0, 1) := by decide +kernel
theorem d4_6 : decode prog_8_method_17_code 6 = .ok (.getfield 30, 3) := by decide +kernel
theorem d4_9 : decode prog_8_method_17_code 9 = .ok (.astore_n 2, 1) := by decide +kernel
theorem d4_10 : decode prog_8_method_17_code 10 = .ok (.aload_n 2, 1) := by decide +kernel
theorem d4_11 : decode prog_8_method_17_code 11 = .ok (.arraylength, 1) := by decide +kernel
theorem d4_12 : decode prog_8_method_17_code 12 = .ok (.istore_n 3, 1) := by decide +kernel
theorem d4_13 : decode prog_8_method_17_code 13 = .ok (.iconst 0, 1) := by decide +kernel
theorem d4_14 : decode prog_8_method_17_code 14 = .ok (.istore 4, 2) := by decide +kernel
theorem d4_16 : decode prog_8_method_17_code 16 = .ok (.iload 4, 2) := by decide +kernel
theorem d4_18 : decode prog_8_method_17_code 18 = .ok (.iload_n 3, 1) := by decide +kernel
theorem d4_19 : decode prog_8_method_17_code 19 = .ok (.if_icmp .ge 28, 3) := by decide +kernel
theorem d4_22 : decode prog_8_method_17_code 22 = .ok (.aload_n 2, 1) := by decide +kernel
theorem d4_23 : decode prog_8_method_17_code 23 = .ok (.iload 4, 2) := by decide +kernel
theorem d4_25 : decode prog_8_method_17_code 25 = .ok (.baload, 1) := by decide +kernel
theorem d4_26 : decode prog_8_method_17_code 26 = .ok (.istore 5, 2) := by decide +kernel
theorem d4_28 : decode prog_8_method_17_code 28 = .ok (.sipush 257, 3) := by decide +kernel
theorem d4_31 : decode prog_8_method_17_code 31 = .ok (.iload_n 1, 1) := by decide +kernel
theorem d4_32 : decode prog_8_method_17_code 32 = .ok (.imul, 1) := by decide +kernel
theorem d4_33 : decode prog_8_method_17_code 33 = .ok (.iload 5, 2) := by decide +kernel
theorem d4_35 : decode prog_8_method_17_code 35 = .ok (.sipush 255, 3) := by decide +kernel
theorem d4_38 : decode prog_8_method_17_code 38 = .ok (.iand, 1) := by decide +kernel
theorem d4_39 : decode prog_8_method_17_code 39 = .ok (.iadd, 1) := by decide +kernel
theorem d4_40 : decode prog_8_method_17_code 40 = .ok (.istore_n 1, 1) := by decide +kernel
theorem d4_41 : decode prog_8_method_17_code 41 = .ok (.iinc 4 1, 3) := by decide +kernel
theorem d4_44 : decode prog_8_method_17_code 44 = .ok (.goto (-28), 3) := by decide +kernel
theorem d4_47 : decode prog_8_method_17_code 47 = .ok (.iload_n 1, 1) := by decide +kernel
theorem d4_48 : decode prog_8_method_17_code 48 = .ok (.ireturn, 1) := by decide +kernel
theorem own_ef27 (m : MethodId) (a1 : Addr) : entryFrame m #[(.ref a1)] 6 = mkF m 0 #[.val (.ref a1), .unset, .unset, .unset, .unset, .unset] [] := by first | (simp [entryFrame, mkF, argsToLocals, Value.category]; done) | rfl
def Q_own_hc (Z : State) (a1 : Addr) (h0 : Heap) (n0 : Nat) (p1 : Int32) (b1 : Addr) (k_b1 : ClassId) (z : Int32) (bs : List Int32) : Option Value → Heap → List Loc → Prop := fun v h L => v = some (.int (own_hash p1 bs)) ∧ Fr n0 L ∧ h = h0
set_option maxRecDepth 65536 in
set_option maxHeartbeats 40000000 in
theorem own_hc (l : Launch) (Z : State) (a0 : Array Value) (hw : ∀ d ∈ tables_1, d.before a0 Z = true)  (a1 : Addr) (h0 : Heap) (n0 : Nat) (p1 : Int32) (b1 : Addr) (k_b1 : ClassId) (z : Int32) (bs : List Int32) (Z0 : n0 ≤ h0.size) (F_a1_type : Fld Z h0 a1 "com/example/cairn/cairn/ccnx/Tlv" "type" "I" (.int p1)) (F_a1_value : Fld Z h0 a1 "com/example/cairn/cairn/ccnx/Tlv" "value" "[B" (.ref b1)) (A_b1 : Arv Z h0 b1 k_b1 .byte z (bs.map Value.int) (.int (0 : Int32))) (hz : z.toInt = (bs.length : Int)) :
    ownMet l Z (⟨"com/example/cairn/cairn/ccnx/Tlv", "hashCode", "()I"⟩ : MethodName) prog_8_method_17_code 6 (some .int) [] ({ frames := 0, cells := 0, slots := 0, locals := 0 } : Room) #[(.ref a1)] h0 (Q_own_hc Z a1 h0 n0 p1 b1 k_b1 z bs) := by
  refine ownBody (plainFor_of_name own_pn1) ?_
  intro p e s m below meth c T0 hx hby hml hret hlk hZ hown hnm X0 e0
  have N0 : Fr n0 [] := Fr.nil n0
  refine ownVia (fun _ k => castTop (own_ef27 m a1) k) ?_
  show ownFin _ _ _ _ _ (T0.setTop (mkF m 0 #[.val (.ref a1), .unset, .unset, .unset, .unset, .unset] []))
  refine ownVia (fun _ k => XS.aloadN X0.here hx rfl (hb hby d4_0) rfl rfl k) ?_
  show ownFin _ _ _ _ _ (T0.setTop (mkF m 1 #[.val (.ref a1), .unset, .unset, .unset, .unset, .unset] [(.ref a1)]))
  obtain ⟨T28, X28, e28, st28⟩ := getF X0 hx hZ hown (host := "") (Or.inl (hw _ (List.mem_of_getElem? (i := 17) rfl))) Via.refl e0 F_a1_type (g := (mkF m 1 #[.val (.ref a1), .unset, .unset, .unset, .unset, .unset] [(.ref a1)])) rfl rfl (hb hby d4_1)
  refine ownVia st28 ?_
  show ownFin _ _ _ _ _ (T28.setTop (mkF m 4 #[.val (.ref a1), .unset, .unset, .unset, .unset, .unset] [(.int p1)]))
  refine ownVia (fun _ k => XS.istoreN X28.here hx rfl (hb hby d4_4) rfl (l' := #[.val (.ref a1), .val (.int p1), .unset, .unset, .unset, .unset]) rfl k) ?_
  show ownFin _ _ _ _ _ (T28.setTop (mkF m 5 #[.val (.ref a1), .val (.int p1), .unset, .unset, .unset, .unset] []))
  refine ownVia (fun _ k => XS.aloadN X28.here hx rfl (hb hby d4_5) rfl rfl k) ?_
  show ownFin _ _ _ _ _ (T28.setTop (mkF m 6 #[.val (.ref a1), .val (.int p1), .unset, .unset, .unset, .unset] [(.ref a1)]))
  obtain ⟨T29, X29, e29, st29⟩ := getF X28 hx hZ hown (host := "") (Or.inl (hw _ (List.mem_of_getElem? (i := 28) rfl))) Via.refl e28 F_a1_value (g := (mkF m 6 #[.val (.ref a1), .val (.int p1), .unset, .unset, .unset, .unset] [(.ref a1)])) rfl rfl (hb hby d4_6)
  refine ownVia st29 ?_
  show ownFin _ _ _ _ _ (T29.setTop (mkF m 9 #[.val (.ref a1), .val (.int p1), .unset, .unset, .unset, .unset] [(.ref b1)]))
  refine ownVia (fun _ k => XS.astoreN X29.here hx rfl (hb hby d4_9) rfl rfl (l' := #[.val (.ref a1), .val (.int p1), .val (.ref b1), .unset, .unset, .unset]) rfl k) ?_
  show ownFin _ _ _ _ _ (T29.setTop (mkF m 10 #[.val (.ref a1), .val (.int p1), .val (.ref b1), .unset, .unset, .unset] []))
  refine ownVia (fun _ k => XS.aloadN X29.here hx rfl (hb hby d4_10) rfl rfl k) ?_
  show ownFin _ _ _ _ _ (T29.setTop (mkF m 11 #[.val (.ref a1), .val (.int p1), .val (.ref b1), .unset, .unset, .unset] [(.ref b1)]))
  refine ownLen X29 hx hZ e29 A_b1 (hb hby d4_11) ?_
  show ownFin _ _ _ _ _ (T29.setTop (mkF m 12 #[.val (.ref a1), .val (.int p1), .val (.ref b1), .unset, .unset, .unset] [(.int z)]))
  refine ownVia (fun _ k => XS.istoreN X29.here hx rfl (hb hby d4_12) rfl (l' := #[.val (.ref a1), .val (.int p1), .val (.ref b1), .val (.int z), .unset, .unset]) rfl k) ?_
  show ownFin _ _ _ _ _ (T29.setTop (mkF m 13 #[.val (.ref a1), .val (.int p1), .val (.ref b1), .val (.int z), .unset, .unset] []))
  refine ownVia (fun _ k => XS.iconst X29.here hx rfl (hb hby d4_13) k) ?_
  show ownFin _ _ _ _ _ (T29.setTop (mkF m 14 #[.val (.ref a1), .val (.int p1), .val (.ref b1), .val (.int z), .unset, .unset] [(.int (0 : Int32))]))
  refine ownVia (fun _ k => XS.istore X29.here hx rfl (hb hby d4_14) rfl (l' := #[.val (.ref a1), .val (.int p1), .val (.ref b1), .val (.int z), .val (.int (0 : Int32)), .unset]) rfl k) ?_
  show ownFin _ _ _ _ _ (T29.setTop (mkF m 16 #[.val (.ref a1), .val (.int p1), .val (.ref b1), .val (.int z), .val (.int (0 : Int32)), .unset] []))
  have loop : ∀ (n i : Nat) (iv : Int32) (s5 : Slot), One s5 → iv.toInt = (i : Int) → i + n = bs.length → ownFin p e below (ownFE s ({ frames := 0, cells := 0, slots := 0, locals := 0 } : Room).cells ({ frames := 0, cells := 0, slots := 0, locals := 0 } : Room).slots) (Q_own_hc Z a1 h0 n0 p1 b1 k_b1 z bs) (T29.setTop (mkF m 16 #[.val (.ref a1), .val (.int (own_hash p1 (bs.take i))), .val (.ref b1), .val (.int z), .val (.int iv), s5] [])) := by
    intro n
    induction n with
    | zero =>
      intro i iv s5 hs5 hiv hin
      show ownFin _ _ _ _ _ (T29.setTop (mkF m 16 #[.val (.ref a1), .val (.int (own_hash p1 (bs.take i))), .val (.ref b1), .val (.int z), .val (.int iv), s5] []))
      refine ownVia (fun _ k => XS.iload X29.here hx rfl (hb hby d4_16) rfl k) ?_
      show ownFin _ _ _ _ _ (T29.setTop (mkF m 18 #[.val (.ref a1), .val (.int (own_hash p1 (bs.take i))), .val (.ref b1), .val (.int z), .val (.int iv), s5] [(.int iv)]))
      refine ownVia (fun _ k => XS.iloadN X29.here hx rfl (hb hby d4_18) rfl k) ?_
      show ownFin _ _ _ _ _ (T29.setTop (mkF m 19 #[.val (.ref a1), .val (.int (own_hash p1 (bs.take i))), .val (.ref b1), .val (.int z), .val (.int iv), s5] [(.int z), (.int iv)]))
      refine ownVia (fun _ k => XS.icmpYes X29.here hx rfl (pc0 := 19) (pc' := 47) rfl (hb hby d4_19) rfl (flt (own_nlt hiv hz (by omega))).2.1 (by decide) (by decide) k) ?_
      show ownFin _ _ _ _ _ (T29.setTop (mkF m 47 #[.val (.ref a1), .val (.int (own_hash p1 (bs.take i))), .val (.ref b1), .val (.int z), .val (.int iv), s5] []))
      refine ownVia (fun _ k => XS.iloadN X29.here hx rfl (hb hby d4_47) rfl k) ?_
      show ownFin _ _ _ _ _ (T29.setTop (mkF m 48 #[.val (.ref a1), .val (.int (own_hash p1 (bs.take i))), .val (.ref b1), .val (.int z), .val (.int iv), s5] [(.int (own_hash p1 (bs.take i)))]))
      have hi : i = bs.length := by omega
      refine ownRetI X29 hx hlk hret (hb hby d4_48) (by decide) (by decide) ?_
      show (Q_own_hc Z a1 h0 n0 p1 b1 k_b1 z bs) (some (.int (own_hash p1 (bs.take i)))) T29.heap _
      rw [e29]
      exact ⟨by rw [hi, List.take_length], N0, rfl⟩
    | succ n ih =>
      intro i iv s5 hs5 hiv hin
      show ownFin _ _ _ _ _ (T29.setTop (mkF m 16 #[.val (.ref a1), .val (.int (own_hash p1 (bs.take i))), .val (.ref b1), .val (.int z), .val (.int iv), s5] []))
      refine ownVia (fun _ k => XS.iload X29.here hx rfl (hb hby d4_16) rfl k) ?_
      show ownFin _ _ _ _ _ (T29.setTop (mkF m 18 #[.val (.ref a1), .val (.int (own_hash p1 (bs.take i))), .val (.ref b1), .val (.int z), .val (.int iv), s5] [(.int iv)]))
      refine ownVia (fun _ k => XS.iloadN X29.here hx rfl (hb hby d4_18) rfl k) ?_
      show ownFin _ _ _ _ _ (T29.setTop (mkF m 19 #[.val (.ref a1), .val (.int (own_hash p1 (bs.take i))), .val (.ref b1), .val (.int z), .val (.int iv), s5] [(.int z), (.int iv)]))
      refine ownVia (fun _ k => XS.icmpNo X29.here hx rfl (hb hby d4_19) rfl (tlt ((own_lti hiv hz).mpr (by omega))).2.1 k) ?_
      show ownFin _ _ _ _ _ (T29.setTop (mkF m 22 #[.val (.ref a1), .val (.int (own_hash p1 (bs.take i))), .val (.ref b1), .val (.int z), .val (.int iv), s5] []))
      refine ownVia (fun _ k => XS.aloadN X29.here hx rfl (hb hby d4_22) rfl rfl k) ?_
      show ownFin _ _ _ _ _ (T29.setTop (mkF m 23 #[.val (.ref a1), .val (.int (own_hash p1 (bs.take i))), .val (.ref b1), .val (.int z), .val (.int iv), s5] [(.ref b1)]))
      refine ownVia (fun _ k => XS.iload X29.here hx rfl (hb hby d4_23) rfl k) ?_
      show ownFin _ _ _ _ _ (T29.setTop (mkF m 25 #[.val (.ref a1), .val (.int (own_hash p1 (bs.take i))), .val (.ref b1), .val (.int z), .val (.int iv), s5] [(.int iv), (.ref b1)]))
      refine ownBaload X29 hx hZ e29 A_b1 (own_idx hz (by omega) (by omega)) (v := (.int (bs.getD i 0))) (by rw [own_clamp hiv]; exact own_getD_map Value.int 0 bs i) (hb hby d4_25) ?_
      show ownFin _ _ _ _ _ (T29.setTop (mkF m 26 #[.val (.ref a1), .val (.int (own_hash p1 (bs.take i))), .val (.ref b1), .val (.int z), .val (.int iv), s5] [(.int (bs.getD i 0))]))
      refine ownVia (fun _ k => XS.istoreS X29.here hx rfl (hb hby d4_26) rfl rfl hs5 k) ?_
      show ownFin _ _ _ _ _ (T29.setTop (mkF m 28 #[.val (.ref a1), .val (.int (own_hash p1 (bs.take i))), .val (.ref b1), .val (.int z), .val (.int iv), .val (.int (bs.getD i 0))] []))
      refine ownVia (fun _ k => XS.sipush X29.here hx rfl (hb hby d4_28) k) ?_
      show ownFin _ _ _ _ _ (T29.setTop (mkF m 31 #[.val (.ref a1), .val (.int (own_hash p1 (bs.take i))), .val (.ref b1), .val (.int z), .val (.int iv), .val (.int (bs.getD i 0))] [(.int (257 : Int32))]))
      refine ownVia (fun _ k => XS.iloadN X29.here hx rfl (hb hby d4_31) rfl k) ?_
      show ownFin _ _ _ _ _ (T29.setTop (mkF m 32 #[.val (.ref a1), .val (.int (own_hash p1 (bs.take i))), .val (.ref b1), .val (.int z), .val (.int iv), .val (.int (bs.getD i 0))] [(.int (own_hash p1 (bs.take i))), (.int (257 : Int32))]))
      refine ownVia (fun _ k => XS.imul X29.here hx rfl (hb hby d4_32) rfl k) ?_
      show ownFin _ _ _ _ _ (T29.setTop (mkF m 33 #[.val (.ref a1), .val (.int (own_hash p1 (bs.take i))), .val (.ref b1), .val (.int z), .val (.int iv), .val (.int (bs.getD i 0))] [(.int ((257 : Int32) * (own_hash p1 (bs.take i))))]))
      refine ownVia (fun _ k => XS.iload X29.here hx rfl (hb hby d4_33) rfl k) ?_
      show ownFin _ _ _ _ _ (T29.setTop (mkF m 35 #[.val (.ref a1), .val (.int (own_hash p1 (bs.take i))), .val (.ref b1), .val (.int z), .val (.int iv), .val (.int (bs.getD i 0))] [(.int (bs.getD i 0)), (.int ((257 : Int32) * (own_hash p1 (bs.take i))))]))
      refine ownVia (fun _ k => XS.sipush X29.here hx rfl (hb hby d4_35) k) ?_
      show ownFin _ _ _ _ _ (T29.setTop (mkF m 38 #[.val (.ref a1), .val (.int (own_hash p1 (bs.take i))), .val (.ref b1), .val (.int z), .val (.int iv), .val (.int (bs.getD i 0))] [(.int (255 : Int32)), (.int (bs.getD i 0)), (.int ((257 : Int32) * (own_hash p1 (bs.take i))))]))
      refine ownVia (fun _ k => XS.iand X29.here hx rfl (hb hby d4_38) rfl k) ?_
      show ownFin _ _ _ _ _ (T29.setTop (mkF m 39 #[.val (.ref a1), .val (.int (own_hash p1 (bs.take i))), .val (.ref b1), .val (.int z), .val (.int iv), .val (.int (bs.getD i 0))] [(.int ((bs.getD i 0) &&& (255 : Int32))), (.int ((257 : Int32) * (own_hash p1 (bs.take i))))]))
      refine ownVia (fun _ k => XS.iadd X29.here hx rfl (hb hby d4_39) rfl k) ?_
      show ownFin _ _ _ _ _ (T29.setTop (mkF m 40 #[.val (.ref a1), .val (.int (own_hash p1 (bs.take i))), .val (.ref b1), .val (.int z), .val (.int iv), .val (.int (bs.getD i 0))] [(.int (((257 : Int32) * (own_hash p1 (bs.take i))) + ((bs.getD i 0) &&& (255 : Int32))))]))
      refine ownVia (fun _ k => XS.istoreN X29.here hx rfl (hb hby d4_40) rfl (l' := #[.val (.ref a1), .val (.int (((257 : Int32) * (own_hash p1 (bs.take i))) + ((bs.getD i 0) &&& (255 : Int32)))), .val (.ref b1), .val (.int z), .val (.int iv), .val (.int (bs.getD i 0))]) rfl k) ?_
      show ownFin _ _ _ _ _ (T29.setTop (mkF m 41 #[.val (.ref a1), .val (.int (((257 : Int32) * (own_hash p1 (bs.take i))) + ((bs.getD i 0) &&& (255 : Int32)))), .val (.ref b1), .val (.int z), .val (.int iv), .val (.int (bs.getD i 0))] []))
      refine ownVia (fun _ k => XS.iinc X29.here hx rfl (hb hby d4_41) rfl (l' := #[.val (.ref a1), .val (.int (((257 : Int32) * (own_hash p1 (bs.take i))) + ((bs.getD i 0) &&& (255 : Int32)))), .val (.ref b1), .val (.int z), .val (.int (iv + (1 : Int32))), .val (.int (bs.getD i 0))]) rfl k) ?_
      show ownFin _ _ _ _ _ (T29.setTop (mkF m 44 #[.val (.ref a1), .val (.int (((257 : Int32) * (own_hash p1 (bs.take i))) + ((bs.getD i 0) &&& (255 : Int32)))), .val (.ref b1), .val (.int z), .val (.int (iv + (1 : Int32))), .val (.int (bs.getD i 0))] []))
      refine ownVia (fun _ k => XS.goto X29.here hx rfl (pc0 := 44) (pc' := 16) rfl (hb hby d4_44) (by decide) (by decide) k) ?_
      show ownFin _ _ _ _ _ (T29.setTop (mkF m 16 #[.val (.ref a1), .val (.int (((257 : Int32) * (own_hash p1 (bs.take i))) + ((bs.getD i 0) &&& (255 : Int32)))), .val (.ref b1), .val (.int z), .val (.int (iv + (1 : Int32))), .val (.int (bs.getD i 0))] []))
      have hacc : (((257 : Int32) * (own_hash p1 (bs.take i))) + ((bs.getD i 0) &&& (255 : Int32))) = own_hash p1 (bs.take (i + 1)) := (own_hash_succ (by omega)).symm
      rw [hacc]
      exact ih (i + 1) (iv + 1) _ (One.val rfl) (by have h1 := c_iadd iv 1; have h2 := rng32 (iv + 1); have h3 : (1 : Int32).toInt = 1 := (by decide); have h4 := rng32 z; omega) (by omega)
  exact loop bs.length 0 0 _ One.u (by decide) (by omega)
theorem own_ef30 (m : MethodId) (p1 : Int32) (p2 : Int32) (p3 : Int32) (p4 : Int32) (p5 : Int32) (p6 : Int32) : entryFrame m #[(.int p1), (.int p2), (.int p3), (.int p4), (.int p5), (.int p6)] maxLocals = mkF m 0 #[.val (.int p1), .val (.int p2), .val (.int p3), .val (.int p4), .val (.int p5), .val (.int p6), .unset, .unset, .unset, .unset, .unset, .unset, .unset, .unset, .unset, .unset, .unset, .unset, .unset, .unset, .unset, .unset] [] := by first | (simp [entryFrame, mkF, argsToLocals, Value.category, maxLocals]; done) | rfl
def Q_own_law (Z : State) (p1 : Int32) (p2 : Int32) (p3 : Int32) (p4 : Int32) (p5 : Int32) (p6 : Int32) (h0 : Heap) (n0 : Nat)  : Option Value → Heap → List Loc → Prop := fun v h L => v = some (.int 1) ∧ Fr n0 L
theorem own_pd0 : parseMethodDescriptor "(IIIII)[B" = some ⟨[.int, .int, .int, .int, .int], some (.array .byte)⟩ := by decide +kernel
theorem own_pd1 : parseMethodDescriptor "(I[B)V" = some ⟨[.int, (.array .byte)], none⟩ := by decide +kernel
theorem own_pd2 : parseMethodDescriptor "()I" = some ⟨[], some .int⟩ := by decide +kernel
set_option maxRecDepth 65536 in
set_option maxHeartbeats 40000000 in
theorem own_law (l : Launch) (Z : State) (a0 : Array Value) (hw : ∀ d ∈ tables_1, d.before a0 Z = true) (ws : List Jvm.Cond) (p1 : Int32) (p2 : Int32) (p3 : Int32) (p4 : Int32) (p5 : Int32) (p6 : Int32) (h0 : Heap) (n0 : Nat)  (Z0 : n0 ≤ h0.size)  :
    ownMet l Z x code maxLocals ret ws room_1 #[(.int p1), (.int p2), (.int p3), (.int p4), (.int p5), (.int p6)] h0 (Q_own_law Z p1 p2 p3 p4 p5 p6 h0 n0 ) := by
  refine ownBody (plainFor_of_name own_pn0) ?_
  intro p e s m below meth c T0 hx hby hml hret hlk hZ hown hnm X0 e0
  have N0 : Fr n0 [] := Fr.nil n0
  have hown : s.vm.findClass "com/example/cairn/cairn/ccnx/TlvHashCodePinLaw" = some m.cls := hown
  refine ownVia (fun _ k => castTop (own_ef30 m p1 p2 p3 p4 p5 p6) k) ?_
  show ownFin _ _ _ _ _ (T0.setTop (mkF m 0 #[.val (.int p1), .val (.int p2), .val (.int p3), .val (.int p4), .val (.int p5), .val (.int p6), .unset, .unset, .unset, .unset, .unset, .unset, .unset, .unset, .unset, .unset, .unset, .unset, .unset, .unset, .unset, .unset] []))
  have hln := own_len p2
  have hty := own_ty p1
  refine ownVia (fun _ k => XS.iloadN X0.here hx rfl (hb hby at_0) rfl k) ?_
  show ownFin _ _ _ _ _ (T0.setTop (mkF m 1 #[.val (.int p1), .val (.int p2), .val (.int p3), .val (.int p4), .val (.int p5), .val (.int p6), .unset, .unset, .unset, .unset, .unset, .unset, .unset, .unset, .unset, .unset, .unset, .unset, .unset, .unset, .unset, .unset] [(.int p1)]))
  refine ownVia (fun _ k => X0.ldcInt hx hown (mvT hZ (hw _ (List.mem_of_getElem? (i := 0) rfl))) (g := (mkF m 1 #[.val (.int p1), .val (.int p2), .val (.int p3), .val (.int p4), .val (.int p5), .val (.int p6), .unset, .unset, .unset, .unset, .unset, .unset, .unset, .unset, .unset, .unset, .unset, .unset, .unset, .unset, .unset, .unset] [(.int p1)])) rfl (hb hby at_1) _ k) ?_
  show ownFin _ _ _ _ _ (T0.setTop (mkF m 3 #[.val (.int p1), .val (.int p2), .val (.int p3), .val (.int p4), .val (.int p5), .val (.int p6), .unset, .unset, .unset, .unset, .unset, .unset, .unset, .unset, .unset, .unset, .unset, .unset, .unset, .unset, .unset, .unset] [(.int (65535 : Int32)), (.int p1)]))
  refine ownVia (fun _ k => XS.iand X0.here hx rfl (hb hby at_3) rfl k) ?_
  show ownFin _ _ _ _ _ (T0.setTop (mkF m 4 #[.val (.int p1), .val (.int p2), .val (.int p3), .val (.int p4), .val (.int p5), .val (.int p6), .unset, .unset, .unset, .unset, .unset, .unset, .unset, .unset, .unset, .unset, .unset, .unset, .unset, .unset, .unset, .unset] [(.int (p1 &&& (65535 : Int32)))]))
  refine ownVia (fun _ k => XS.istore X0.here hx rfl (hb hby at_4) rfl (l' := #[.val (.int p1), .val (.int p2), .val (.int p3), .val (.int p4), .val (.int p5), .val (.int p6), .val (.int (p1 &&& (65535 : Int32))), .unset, .unset, .unset, .unset, .unset, .unset, .unset, .unset, .unset, .unset, .unset, .unset, .unset, .unset, .unset]) rfl k) ?_
  show ownFin _ _ _ _ _ (T0.setTop (mkF m 6 #[.val (.int p1), .val (.int p2), .val (.int p3), .val (.int p4), .val (.int p5), .val (.int p6), .val (.int (p1 &&& (65535 : Int32))), .unset, .unset, .unset, .unset, .unset, .unset, .unset, .unset, .unset, .unset, .unset, .unset, .unset, .unset, .unset] []))
  refine ownVia (fun _ k => XS.iloadN X0.here hx rfl (hb hby at_6) rfl k) ?_
  show ownFin _ _ _ _ _ (T0.setTop (mkF m 7 #[.val (.int p1), .val (.int p2), .val (.int p3), .val (.int p4), .val (.int p5), .val (.int p6), .val (.int (p1 &&& (65535 : Int32))), .unset, .unset, .unset, .unset, .unset, .unset, .unset, .unset, .unset, .unset, .unset, .unset, .unset, .unset, .unset] [(.int p2)]))
  refine ownVia (fun _ k => X0.ldcInt hx hown (mvT hZ (hw _ (List.mem_of_getElem? (i := 1) rfl))) (g := (mkF m 7 #[.val (.int p1), .val (.int p2), .val (.int p3), .val (.int p4), .val (.int p5), .val (.int p6), .val (.int (p1 &&& (65535 : Int32))), .unset, .unset, .unset, .unset, .unset, .unset, .unset, .unset, .unset, .unset, .unset, .unset, .unset, .unset, .unset] [(.int p2)])) rfl (hb hby at_7) _ k) ?_
  show ownFin _ _ _ _ _ (T0.setTop (mkF m 9 #[.val (.int p1), .val (.int p2), .val (.int p3), .val (.int p4), .val (.int p5), .val (.int p6), .val (.int (p1 &&& (65535 : Int32))), .unset, .unset, .unset, .unset, .unset, .unset, .unset, .unset, .unset, .unset, .unset, .unset, .unset, .unset, .unset] [(.int (2147483647 : Int32)), (.int p2)]))
  refine ownVia (fun _ k => XS.iand X0.here hx rfl (hb hby at_9) rfl k) ?_
  show ownFin _ _ _ _ _ (T0.setTop (mkF m 10 #[.val (.int p1), .val (.int p2), .val (.int p3), .val (.int p4), .val (.int p5), .val (.int p6), .val (.int (p1 &&& (65535 : Int32))), .unset, .unset, .unset, .unset, .unset, .unset, .unset, .unset, .unset, .unset, .unset, .unset, .unset, .unset, .unset] [(.int (p2 &&& (2147483647 : Int32)))]))
  refine ownVia (fun _ k => XS.iconst X0.here hx rfl (hb hby at_10) k) ?_
  show ownFin _ _ _ _ _ (T0.setTop (mkF m 11 #[.val (.int p1), .val (.int p2), .val (.int p3), .val (.int p4), .val (.int p5), .val (.int p6), .val (.int (p1 &&& (65535 : Int32))), .unset, .unset, .unset, .unset, .unset, .unset, .unset, .unset, .unset, .unset, .unset, .unset, .unset, .unset, .unset] [(.int (5 : Int32)), (.int (p2 &&& (2147483647 : Int32)))]))
  refine ownVia (fun _ k => iremM X0 hx rfl (hb hby at_11) rfl (by decide) k) ?_
  show ownFin _ _ _ _ _ (T0.setTop (mkF m 12 #[.val (.int p1), .val (.int p2), .val (.int p3), .val (.int p4), .val (.int p5), .val (.int p6), .val (.int (p1 &&& (65535 : Int32))), .unset, .unset, .unset, .unset, .unset, .unset, .unset, .unset, .unset, .unset, .unset, .unset, .unset, .unset, .unset] [(.int ((p2 &&& (2147483647 : Int32)) % (5 : Int32)))]))
  refine ownVia (fun _ k => XS.istore X0.here hx rfl (hb hby at_12) rfl (l' := #[.val (.int p1), .val (.int p2), .val (.int p3), .val (.int p4), .val (.int p5), .val (.int p6), .val (.int (p1 &&& (65535 : Int32))), .val (.int ((p2 &&& (2147483647 : Int32)) % (5 : Int32))), .unset, .unset, .unset, .unset, .unset, .unset, .unset, .unset, .unset, .unset, .unset, .unset, .unset, .unset]) rfl k) ?_
  show ownFin _ _ _ _ _ (T0.setTop (mkF m 14 #[.val (.int p1), .val (.int p2), .val (.int p3), .val (.int p4), .val (.int p5), .val (.int p6), .val (.int (p1 &&& (65535 : Int32))), .val (.int ((p2 &&& (2147483647 : Int32)) % (5 : Int32))), .unset, .unset, .unset, .unset, .unset, .unset, .unset, .unset, .unset, .unset, .unset, .unset, .unset, .unset] []))
  refine ownVia (fun _ k => XS.iload X0.here hx rfl (hb hby at_14) rfl k) ?_
  show ownFin _ _ _ _ _ (T0.setTop (mkF m 16 #[.val (.int p1), .val (.int p2), .val (.int p3), .val (.int p4), .val (.int p5), .val (.int p6), .val (.int (p1 &&& (65535 : Int32))), .val (.int ((p2 &&& (2147483647 : Int32)) % (5 : Int32))), .unset, .unset, .unset, .unset, .unset, .unset, .unset, .unset, .unset, .unset, .unset, .unset, .unset, .unset] [(.int ((p2 &&& (2147483647 : Int32)) % (5 : Int32)))]))
  refine ownVia (fun _ k => XS.iloadN X0.here hx rfl (hb hby at_16) rfl k) ?_
  show ownFin _ _ _ _ _ (T0.setTop (mkF m 17 #[.val (.int p1), .val (.int p2), .val (.int p3), .val (.int p4), .val (.int p5), .val (.int p6), .val (.int (p1 &&& (65535 : Int32))), .val (.int ((p2 &&& (2147483647 : Int32)) % (5 : Int32))), .unset, .unset, .unset, .unset, .unset, .unset, .unset, .unset, .unset, .unset, .unset, .unset, .unset, .unset] [(.int p3), (.int ((p2 &&& (2147483647 : Int32)) % (5 : Int32)))]))
  refine ownVia (fun _ k => XS.iloadN X0.here hx rfl (hb hby at_17) rfl k) ?_
  show ownFin _ _ _ _ _ (T0.setTop (mkF m 18 #[.val (.int p1), .val (.int p2), .val (.int p3), .val (.int p4), .val (.int p5), .val (.int p6), .val (.int (p1 &&& (65535 : Int32))), .val (.int ((p2 &&& (2147483647 : Int32)) % (5 : Int32))), .unset, .unset, .unset, .unset, .unset, .unset, .unset, .unset, .unset, .unset, .unset, .unset, .unset, .unset] [(.int p4), (.int p3), (.int ((p2 &&& (2147483647 : Int32)) % (5 : Int32)))]))
  refine ownVia (fun _ k => XS.iload X0.here hx rfl (hb hby at_18) rfl k) ?_
  show ownFin _ _ _ _ _ (T0.setTop (mkF m 20 #[.val (.int p1), .val (.int p2), .val (.int p3), .val (.int p4), .val (.int p5), .val (.int p6), .val (.int (p1 &&& (65535 : Int32))), .val (.int ((p2 &&& (2147483647 : Int32)) % (5 : Int32))), .unset, .unset, .unset, .unset, .unset, .unset, .unset, .unset, .unset, .unset, .unset, .unset, .unset, .unset] [(.int p5), (.int p4), (.int p3), (.int ((p2 &&& (2147483647 : Int32)) % (5 : Int32)))]))
  refine ownVia (fun _ k => XS.iload X0.here hx rfl (hb hby at_20) rfl k) ?_
  show ownFin _ _ _ _ _ (T0.setTop (mkF m 22 #[.val (.int p1), .val (.int p2), .val (.int p3), .val (.int p4), .val (.int p5), .val (.int p6), .val (.int (p1 &&& (65535 : Int32))), .val (.int ((p2 &&& (2147483647 : Int32)) % (5 : Int32))), .unset, .unset, .unset, .unset, .unset, .unset, .unset, .unset, .unset, .unset, .unset, .unset, .unset, .unset] [(.int p6), (.int p5), (.int p4), (.int p3), (.int ((p2 &&& (2147483647 : Int32)) % (5 : Int32)))]))
  generalize h_nv : ((p2 &&& (2147483647 : Int32)) % (5 : Int32)) = nv
  show ownFin _ _ _ _ _ (T0.setTop (mkF m 22 #[.val (.int p1), .val (.int p2), .val (.int p3), .val (.int p4), .val (.int p5), .val (.int p6), .val (.int (p1 &&& (65535 : Int32))), .val (.int nv), .unset, .unset, .unset, .unset, .unset, .unset, .unset, .unset, .unset, .unset, .unset, .unset, .unset, .unset] [(.int p6), (.int p5), (.int p4), (.int p3), (.int nv)]))
  rw [h_nv] at hln
  generalize h_tv : (p1 &&& (65535 : Int32)) = tv
  show ownFin _ _ _ _ _ (T0.setTop (mkF m 22 #[.val (.int p1), .val (.int p2), .val (.int p3), .val (.int p4), .val (.int p5), .val (.int p6), .val (.int tv), .val (.int nv), .unset, .unset, .unset, .unset, .unset, .unset, .unset, .unset, .unset, .unset, .unset, .unset, .unset, .unset] [(.int p6), (.int p5), (.int p4), (.int p3), (.int nv)]))
  rw [h_tv] at hty
  obtain ⟨M, hM⟩ : ∃ M : Nat, nv.toInt = (M : Int) := ⟨nv.toInt.toNat, by omega⟩
  have hM8 : M ≤ 4 := by omega
  refine ownCallS X0 hx hZ hown (hw _ (List.mem_of_getElem? (i := 2) rfl)) (hw _ (List.mem_of_getElem? (i := 3) rfl)) (hw _ (List.mem_of_getElem? (i := 4) rfl)) (hw _ (List.mem_of_getElem? (i := 5) rfl)) (by decide) e0 (own_bytes l Z a0 hw nv p3 p4 p5 p6 h0 n0 M Z0 hM hM8) (by rw [hml]; rfl) [(.int nv), (.int p3), (.int p4), (.int p5), (.int p6)] [] (lenOf own_pd0 rfl) rfl rfl 0 rfl (hb hby at_22) (by decide) (by decide) (by decide) (by decide) ?_
  intro v31 T31 L31 X31 hq31
  obtain ⟨b1, k_b1, rfl, N31q, K31, sq31, E_b1, A_b1⟩ := hq31
  have ge_b1 : n0 ≤ b1 := Nat.le_trans Z0 sq31
  have Z0 := Nat.le_trans Z0 K31.1
  have N31 := Fr.app N0 N31q
  show ownFin _ _ _ _ _ (T31.setTop (mkF m 25 #[.val (.int p1), .val (.int p2), .val (.int p3), .val (.int p4), .val (.int p5), .val (.int p6), .val (.int tv), .val (.int nv), .unset, .unset, .unset, .unset, .unset, .unset, .unset, .unset, .unset, .unset, .unset, .unset, .unset, .unset] [(.ref b1)]))
  refine ownVia (fun _ k => XS.astore X31.here hx rfl (hb hby at_25) rfl rfl (l' := #[.val (.int p1), .val (.int p2), .val (.int p3), .val (.int p4), .val (.int p5), .val (.int p6), .val (.int tv), .val (.int nv), .val (.ref b1), .unset, .unset, .unset, .unset, .unset, .unset, .unset, .unset, .unset, .unset, .unset, .unset, .unset]) rfl k) ?_
  show ownFin _ _ _ _ _ (T31.setTop (mkF m 27 #[.val (.int p1), .val (.int p2), .val (.int p3), .val (.int p4), .val (.int p5), .val (.int p6), .val (.int tv), .val (.int nv), .val (.ref b1), .unset, .unset, .unset, .unset, .unset, .unset, .unset, .unset, .unset, .unset, .unset, .unset, .unset] []))
  obtain ⟨T32, h32, X32, e32, E32, A32, D32, -, st32⟩ := newO X31 hx hZ hown (hw _ (List.mem_of_getElem? (i := 7) rfl)) (hw _ (List.mem_of_getElem? (i := 8) rfl)) (hw _ (List.mem_of_getElem? (i := 9) rfl)) (rfl : T31.heap = T31.heap) (g := (mkF m 27 #[.val (.int p1), .val (.int p2), .val (.int p3), .val (.int p4), .val (.int p5), .val (.int p6), .val (.int tv), .val (.int nv), .val (.ref b1), .unset, .unset, .unset, .unset, .unset, .unset, .unset, .unset, .unset, .unset, .unset, .unset, .unset] [])) rfl (hb hby at_27) (by decide) (by decide)
  obtain ⟨b2, g32⟩ : ∃ z, z = T31.heap.size := ⟨_, rfl⟩
  rw [← g32] at A32 D32 st32
  have ne_b1_b2 : b1 ≠ b2 := Nat.ne_of_lt (Nat.lt_of_lt_of_le A_b1.lt (Nat.le_of_eq g32.symm))
  have ge_b2 : n0 ≤ b2 := Nat.le_trans Z0 (Nat.le_of_eq g32.symm)
  have A_b1 := A_b1.ext E32
  have E_b1 := E_b1.ext E32
  have Z0 := own_sz Z0 E32
  have E_b2 := A32
  have F_b2_type : Fld Z h32 b2 "com/example/cairn/cairn/ccnx/Tlv" "type" "I" (.int (0 : Int32)) := D32 (Or.inr (hw _ (List.mem_of_getElem? (i := 18) rfl))) (ty := .int) (by decide)
  have F_b2_value : Fld Z h32 b2 "com/example/cairn/cairn/ccnx/Tlv" "value" "[B" .null := D32 (Or.inr (hw _ (List.mem_of_getElem? (i := 29) rfl))) (ty := (.array .byte)) (by decide)
  refine ownVia st32 ?_
  show ownFin _ _ _ _ _ (T32.setTop (mkF m 30 #[.val (.int p1), .val (.int p2), .val (.int p3), .val (.int p4), .val (.int p5), .val (.int p6), .val (.int tv), .val (.int nv), .val (.ref b1), .unset, .unset, .unset, .unset, .unset, .unset, .unset, .unset, .unset, .unset, .unset, .unset, .unset] [(.ref b2)]))
  refine ownVia (fun _ k => XS.dup X32.here hx rfl (hb hby at_30) rfl rfl k) ?_
  show ownFin _ _ _ _ _ (T32.setTop (mkF m 31 #[.val (.int p1), .val (.int p2), .val (.int p3), .val (.int p4), .val (.int p5), .val (.int p6), .val (.int tv), .val (.int nv), .val (.ref b1), .unset, .unset, .unset, .unset, .unset, .unset, .unset, .unset, .unset, .unset, .unset, .unset, .unset] [(.ref b2), (.ref b2)]))
  refine ownVia (fun _ k => XS.iload X32.here hx rfl (hb hby at_31) rfl k) ?_
  show ownFin _ _ _ _ _ (T32.setTop (mkF m 33 #[.val (.int p1), .val (.int p2), .val (.int p3), .val (.int p4), .val (.int p5), .val (.int p6), .val (.int tv), .val (.int nv), .val (.ref b1), .unset, .unset, .unset, .unset, .unset, .unset, .unset, .unset, .unset, .unset, .unset, .unset, .unset] [(.int tv), (.ref b2), (.ref b2)]))
  refine ownVia (fun _ k => XS.aload X32.here hx rfl (hb hby at_33) rfl rfl k) ?_
  show ownFin _ _ _ _ _ (T32.setTop (mkF m 35 #[.val (.int p1), .val (.int p2), .val (.int p3), .val (.int p4), .val (.int p5), .val (.int p6), .val (.int tv), .val (.int nv), .val (.ref b1), .unset, .unset, .unset, .unset, .unset, .unset, .unset, .unset, .unset, .unset, .unset, .unset, .unset] [(.ref b1), (.int tv), (.ref b2), (.ref b2)]))
  refine ownCallN X32 hx hZ hown rfl (hw _ (List.mem_of_getElem? (i := 10) rfl)) (hw _ (List.mem_of_getElem? (i := 11) rfl)) (hw _ (List.mem_of_getElem? (i := 9) rfl)) (hw _ (List.mem_of_getElem? (i := 12) rfl)) (by decide) e32 (own_init l Z a0 hw b2 tv b1 h32 n0 k_b1 nv ((own_bl p3 p4 p5 p6 M).map Value.int) M Z0 F_b2_type F_b2_value E_b2 ge_b2 A_b1 E_b1 (Ne.symm ne_b1_b2) hty hM hM8) (by rw [hml]; rfl) b2 [(.int tv), (.ref b1)] [(.ref b2)] (lenOf own_pd1 rfl) rfl rfl 1 rfl (hb hby at_35) (by decide) (by decide) (by decide) (by decide) ?_
  intro v33 T33 L33 X33 hq33
  obtain ⟨rfl, N33q, K33, b3, sq33, F_b2_type, F_b2_value, A_b3⟩ := hq33
  have ne_b1_b3 : b1 ≠ b3 := Nat.ne_of_lt (Nat.lt_of_lt_of_le A_b1.lt sq33)
  have ne_b2_b3 : b2 ≠ b3 := Nat.ne_of_lt (Nat.lt_of_lt_of_le E_b2.lt sq33)
  have ge_b3 : n0 ≤ b3 := Nat.le_trans Z0 sq33
  have A_b1 := A_b1.keep K33 (ninS ne_b1_b2 nin0)
  have E_b1 := E_b1.keep K33
  have E_b2 := E_b2.keep K33
  have Z0 := Nat.le_trans Z0 K33.1
  have N33 := Fr.app N31 N33q
  show ownFin _ _ _ _ _ (T33.setTop (mkF m 38 #[.val (.int p1), .val (.int p2), .val (.int p3), .val (.int p4), .val (.int p5), .val (.int p6), .val (.int tv), .val (.int nv), .val (.ref b1), .unset, .unset, .unset, .unset, .unset, .unset, .unset, .unset, .unset, .unset, .unset, .unset, .unset] [(.ref b2)]))
  refine ownVia (fun _ k => XS.astore X33.here hx rfl (hb hby at_38) rfl rfl (l' := #[.val (.int p1), .val (.int p2), .val (.int p3), .val (.int p4), .val (.int p5), .val (.int p6), .val (.int tv), .val (.int nv), .val (.ref b1), .val (.ref b2), .unset, .unset, .unset, .unset, .unset, .unset, .unset, .unset, .unset, .unset, .unset, .unset]) rfl k) ?_
  show ownFin _ _ _ _ _ (T33.setTop (mkF m 40 #[.val (.int p1), .val (.int p2), .val (.int p3), .val (.int p4), .val (.int p5), .val (.int p6), .val (.int tv), .val (.int nv), .val (.ref b1), .val (.ref b2), .unset, .unset, .unset, .unset, .unset, .unset, .unset, .unset, .unset, .unset, .unset, .unset] []))
  refine ownVia (fun _ k => XS.iload X33.here hx rfl (hb hby at_40) rfl k) ?_
  show ownFin _ _ _ _ _ (T33.setTop (mkF m 42 #[.val (.int p1), .val (.int p2), .val (.int p3), .val (.int p4), .val (.int p5), .val (.int p6), .val (.int tv), .val (.int nv), .val (.ref b1), .val (.ref b2), .unset, .unset, .unset, .unset, .unset, .unset, .unset, .unset, .unset, .unset, .unset, .unset] [(.int tv)]))
  refine ownVia (fun _ k => XS.i2l X33.here hx rfl (hb hby at_42) rfl k) ?_
  show ownFin _ _ _ _ _ (T33.setTop (mkF m 43 #[.val (.int p1), .val (.int p2), .val (.int p3), .val (.int p4), .val (.int p5), .val (.int p6), .val (.int tv), .val (.int nv), .val (.ref b1), .val (.ref b2), .unset, .unset, .unset, .unset, .unset, .unset, .unset, .unset, .unset, .unset, .unset, .unset] [(.long (tv.toInt64))]))
  refine ownVia (fun _ k => XS.lstore X33.here hx rfl (hb hby at_43) rfl (l' := #[.val (.int p1), .val (.int p2), .val (.int p3), .val (.int p4), .val (.int p5), .val (.int p6), .val (.int tv), .val (.int nv), .val (.ref b1), .val (.ref b2), .val (.long (tv.toInt64)), .second, .unset, .unset, .unset, .unset, .unset, .unset, .unset, .unset, .unset, .unset]) rfl k) ?_
  show ownFin _ _ _ _ _ (T33.setTop (mkF m 45 #[.val (.int p1), .val (.int p2), .val (.int p3), .val (.int p4), .val (.int p5), .val (.int p6), .val (.int tv), .val (.int nv), .val (.ref b1), .val (.ref b2), .val (.long (tv.toInt64)), .second, .unset, .unset, .unset, .unset, .unset, .unset, .unset, .unset, .unset, .unset] []))
  refine ownVia (fun _ k => XS.iloadN X33.here hx rfl (hb hby at_45) rfl k) ?_
  show ownFin _ _ _ _ _ (T33.setTop (mkF m 46 #[.val (.int p1), .val (.int p2), .val (.int p3), .val (.int p4), .val (.int p5), .val (.int p6), .val (.int tv), .val (.int nv), .val (.ref b1), .val (.ref b2), .val (.long (tv.toInt64)), .second, .unset, .unset, .unset, .unset, .unset, .unset, .unset, .unset, .unset, .unset] [(.int p3)]))
  refine ownVia (fun _ k => XS.sipush X33.here hx rfl (hb hby at_46) k) ?_
  show ownFin _ _ _ _ _ (T33.setTop (mkF m 49 #[.val (.int p1), .val (.int p2), .val (.int p3), .val (.int p4), .val (.int p5), .val (.int p6), .val (.int tv), .val (.int nv), .val (.ref b1), .val (.ref b2), .val (.long (tv.toInt64)), .second, .unset, .unset, .unset, .unset, .unset, .unset, .unset, .unset, .unset, .unset] [(.int (255 : Int32)), (.int p3)]))
  refine ownVia (fun _ k => XS.iand X33.here hx rfl (hb hby at_49) rfl k) ?_
  show ownFin _ _ _ _ _ (T33.setTop (mkF m 50 #[.val (.int p1), .val (.int p2), .val (.int p3), .val (.int p4), .val (.int p5), .val (.int p6), .val (.int tv), .val (.int nv), .val (.ref b1), .val (.ref b2), .val (.long (tv.toInt64)), .second, .unset, .unset, .unset, .unset, .unset, .unset, .unset, .unset, .unset, .unset] [(.int (p3 &&& (255 : Int32)))]))
  refine ownVia (fun _ k => XS.i2l X33.here hx rfl (hb hby at_50) rfl k) ?_
  show ownFin _ _ _ _ _ (T33.setTop (mkF m 51 #[.val (.int p1), .val (.int p2), .val (.int p3), .val (.int p4), .val (.int p5), .val (.int p6), .val (.int tv), .val (.int nv), .val (.ref b1), .val (.ref b2), .val (.long (tv.toInt64)), .second, .unset, .unset, .unset, .unset, .unset, .unset, .unset, .unset, .unset, .unset] [(.long ((p3 &&& (255 : Int32)).toInt64))]))
  refine ownVia (fun _ k => XS.lstore X33.here hx rfl (hb hby at_51) rfl (l' := #[.val (.int p1), .val (.int p2), .val (.int p3), .val (.int p4), .val (.int p5), .val (.int p6), .val (.int tv), .val (.int nv), .val (.ref b1), .val (.ref b2), .val (.long (tv.toInt64)), .second, .val (.long ((p3 &&& (255 : Int32)).toInt64)), .second, .unset, .unset, .unset, .unset, .unset, .unset, .unset, .unset]) rfl k) ?_
  show ownFin _ _ _ _ _ (T33.setTop (mkF m 53 #[.val (.int p1), .val (.int p2), .val (.int p3), .val (.int p4), .val (.int p5), .val (.int p6), .val (.int tv), .val (.int nv), .val (.ref b1), .val (.ref b2), .val (.long (tv.toInt64)), .second, .val (.long ((p3 &&& (255 : Int32)).toInt64)), .second, .unset, .unset, .unset, .unset, .unset, .unset, .unset, .unset] []))
  refine ownVia (fun _ k => XS.iloadN X33.here hx rfl (hb hby at_53) rfl k) ?_
  show ownFin _ _ _ _ _ (T33.setTop (mkF m 54 #[.val (.int p1), .val (.int p2), .val (.int p3), .val (.int p4), .val (.int p5), .val (.int p6), .val (.int tv), .val (.int nv), .val (.ref b1), .val (.ref b2), .val (.long (tv.toInt64)), .second, .val (.long ((p3 &&& (255 : Int32)).toInt64)), .second, .unset, .unset, .unset, .unset, .unset, .unset, .unset, .unset] [(.int p4)]))
  refine ownVia (fun _ k => XS.sipush X33.here hx rfl (hb hby at_54) k) ?_
  show ownFin _ _ _ _ _ (T33.setTop (mkF m 57 #[.val (.int p1), .val (.int p2), .val (.int p3), .val (.int p4), .val (.int p5), .val (.int p6), .val (.int tv), .val (.int nv), .val (.ref b1), .val (.ref b2), .val (.long (tv.toInt64)), .second, .val (.long ((p3 &&& (255 : Int32)).toInt64)), .second, .unset, .unset, .unset, .unset, .unset, .unset, .unset, .unset] [(.int (255 : Int32)), (.int p4)]))
  refine ownVia (fun _ k => XS.iand X33.here hx rfl (hb hby at_57) rfl k) ?_
  show ownFin _ _ _ _ _ (T33.setTop (mkF m 58 #[.val (.int p1), .val (.int p2), .val (.int p3), .val (.int p4), .val (.int p5), .val (.int p6), .val (.int tv), .val (.int nv), .val (.ref b1), .val (.ref b2), .val (.long (tv.toInt64)), .second, .val (.long ((p3 &&& (255 : Int32)).toInt64)), .second, .unset, .unset, .unset, .unset, .unset, .unset, .unset, .unset] [(.int (p4 &&& (255 : Int32)))]))
  refine ownVia (fun _ k => XS.i2l X33.here hx rfl (hb hby at_58) rfl k) ?_
  show ownFin _ _ _ _ _ (T33.setTop (mkF m 59 #[.val (.int p1), .val (.int p2), .val (.int p3), .val (.int p4), .val (.int p5), .val (.int p6), .val (.int tv), .val (.int nv), .val (.ref b1), .val (.ref b2), .val (.long (tv.toInt64)), .second, .val (.long ((p3 &&& (255 : Int32)).toInt64)), .second, .unset, .unset, .unset, .unset, .unset, .unset, .unset, .unset] [(.long ((p4 &&& (255 : Int32)).toInt64))]))
  refine ownVia (fun _ k => XS.lstore X33.here hx rfl (hb hby at_59) rfl (l' := #[.val (.int p1), .val (.int p2), .val (.int p3), .val (.int p4), .val (.int p5), .val (.int p6), .val (.int tv), .val (.int nv), .val (.ref b1), .val (.ref b2), .val (.long (tv.toInt64)), .second, .val (.long ((p3 &&& (255 : Int32)).toInt64)), .second, .val (.long ((p4 &&& (255 : Int32)).toInt64)), .second, .unset, .unset, .unset, .unset, .unset, .unset]) rfl k) ?_
  show ownFin _ _ _ _ _ (T33.setTop (mkF m 61 #[.val (.int p1), .val (.int p2), .val (.int p3), .val (.int p4), .val (.int p5), .val (.int p6), .val (.int tv), .val (.int nv), .val (.ref b1), .val (.ref b2), .val (.long (tv.toInt64)), .second, .val (.long ((p3 &&& (255 : Int32)).toInt64)), .second, .val (.long ((p4 &&& (255 : Int32)).toInt64)), .second, .unset, .unset, .unset, .unset, .unset, .unset] []))
  refine ownVia (fun _ k => XS.iload X33.here hx rfl (hb hby at_61) rfl k) ?_
  show ownFin _ _ _ _ _ (T33.setTop (mkF m 63 #[.val (.int p1), .val (.int p2), .val (.int p3), .val (.int p4), .val (.int p5), .val (.int p6), .val (.int tv), .val (.int nv), .val (.ref b1), .val (.ref b2), .val (.long (tv.toInt64)), .second, .val (.long ((p3 &&& (255 : Int32)).toInt64)), .second, .val (.long ((p4 &&& (255 : Int32)).toInt64)), .second, .unset, .unset, .unset, .unset, .unset, .unset] [(.int p5)]))
  refine ownVia (fun _ k => XS.sipush X33.here hx rfl (hb hby at_63) k) ?_
  show ownFin _ _ _ _ _ (T33.setTop (mkF m 66 #[.val (.int p1), .val (.int p2), .val (.int p3), .val (.int p4), .val (.int p5), .val (.int p6), .val (.int tv), .val (.int nv), .val (.ref b1), .val (.ref b2), .val (.long (tv.toInt64)), .second, .val (.long ((p3 &&& (255 : Int32)).toInt64)), .second, .val (.long ((p4 &&& (255 : Int32)).toInt64)), .second, .unset, .unset, .unset, .unset, .unset, .unset] [(.int (255 : Int32)), (.int p5)]))
  refine ownVia (fun _ k => XS.iand X33.here hx rfl (hb hby at_66) rfl k) ?_
  show ownFin _ _ _ _ _ (T33.setTop (mkF m 67 #[.val (.int p1), .val (.int p2), .val (.int p3), .val (.int p4), .val (.int p5), .val (.int p6), .val (.int tv), .val (.int nv), .val (.ref b1), .val (.ref b2), .val (.long (tv.toInt64)), .second, .val (.long ((p3 &&& (255 : Int32)).toInt64)), .second, .val (.long ((p4 &&& (255 : Int32)).toInt64)), .second, .unset, .unset, .unset, .unset, .unset, .unset] [(.int (p5 &&& (255 : Int32)))]))
  refine ownVia (fun _ k => XS.i2l X33.here hx rfl (hb hby at_67) rfl k) ?_
  show ownFin _ _ _ _ _ (T33.setTop (mkF m 68 #[.val (.int p1), .val (.int p2), .val (.int p3), .val (.int p4), .val (.int p5), .val (.int p6), .val (.int tv), .val (.int nv), .val (.ref b1), .val (.ref b2), .val (.long (tv.toInt64)), .second, .val (.long ((p3 &&& (255 : Int32)).toInt64)), .second, .val (.long ((p4 &&& (255 : Int32)).toInt64)), .second, .unset, .unset, .unset, .unset, .unset, .unset] [(.long ((p5 &&& (255 : Int32)).toInt64))]))
  refine ownVia (fun _ k => XS.lstore X33.here hx rfl (hb hby at_68) rfl (l' := #[.val (.int p1), .val (.int p2), .val (.int p3), .val (.int p4), .val (.int p5), .val (.int p6), .val (.int tv), .val (.int nv), .val (.ref b1), .val (.ref b2), .val (.long (tv.toInt64)), .second, .val (.long ((p3 &&& (255 : Int32)).toInt64)), .second, .val (.long ((p4 &&& (255 : Int32)).toInt64)), .second, .val (.long ((p5 &&& (255 : Int32)).toInt64)), .second, .unset, .unset, .unset, .unset]) rfl k) ?_
  show ownFin _ _ _ _ _ (T33.setTop (mkF m 70 #[.val (.int p1), .val (.int p2), .val (.int p3), .val (.int p4), .val (.int p5), .val (.int p6), .val (.int tv), .val (.int nv), .val (.ref b1), .val (.ref b2), .val (.long (tv.toInt64)), .second, .val (.long ((p3 &&& (255 : Int32)).toInt64)), .second, .val (.long ((p4 &&& (255 : Int32)).toInt64)), .second, .val (.long ((p5 &&& (255 : Int32)).toInt64)), .second, .unset, .unset, .unset, .unset] []))
  refine ownVia (fun _ k => XS.iload X33.here hx rfl (hb hby at_70) rfl k) ?_
  show ownFin _ _ _ _ _ (T33.setTop (mkF m 72 #[.val (.int p1), .val (.int p2), .val (.int p3), .val (.int p4), .val (.int p5), .val (.int p6), .val (.int tv), .val (.int nv), .val (.ref b1), .val (.ref b2), .val (.long (tv.toInt64)), .second, .val (.long ((p3 &&& (255 : Int32)).toInt64)), .second, .val (.long ((p4 &&& (255 : Int32)).toInt64)), .second, .val (.long ((p5 &&& (255 : Int32)).toInt64)), .second, .unset, .unset, .unset, .unset] [(.int p6)]))
  refine ownVia (fun _ k => XS.sipush X33.here hx rfl (hb hby at_72) k) ?_
  show ownFin _ _ _ _ _ (T33.setTop (mkF m 75 #[.val (.int p1), .val (.int p2), .val (.int p3), .val (.int p4), .val (.int p5), .val (.int p6), .val (.int tv), .val (.int nv), .val (.ref b1), .val (.ref b2), .val (.long (tv.toInt64)), .second, .val (.long ((p3 &&& (255 : Int32)).toInt64)), .second, .val (.long ((p4 &&& (255 : Int32)).toInt64)), .second, .val (.long ((p5 &&& (255 : Int32)).toInt64)), .second, .unset, .unset, .unset, .unset] [(.int (255 : Int32)), (.int p6)]))
  refine ownVia (fun _ k => XS.iand X33.here hx rfl (hb hby at_75) rfl k) ?_
  show ownFin _ _ _ _ _ (T33.setTop (mkF m 76 #[.val (.int p1), .val (.int p2), .val (.int p3), .val (.int p4), .val (.int p5), .val (.int p6), .val (.int tv), .val (.int nv), .val (.ref b1), .val (.ref b2), .val (.long (tv.toInt64)), .second, .val (.long ((p3 &&& (255 : Int32)).toInt64)), .second, .val (.long ((p4 &&& (255 : Int32)).toInt64)), .second, .val (.long ((p5 &&& (255 : Int32)).toInt64)), .second, .unset, .unset, .unset, .unset] [(.int (p6 &&& (255 : Int32)))]))
  refine ownVia (fun _ k => XS.i2l X33.here hx rfl (hb hby at_76) rfl k) ?_
  show ownFin _ _ _ _ _ (T33.setTop (mkF m 77 #[.val (.int p1), .val (.int p2), .val (.int p3), .val (.int p4), .val (.int p5), .val (.int p6), .val (.int tv), .val (.int nv), .val (.ref b1), .val (.ref b2), .val (.long (tv.toInt64)), .second, .val (.long ((p3 &&& (255 : Int32)).toInt64)), .second, .val (.long ((p4 &&& (255 : Int32)).toInt64)), .second, .val (.long ((p5 &&& (255 : Int32)).toInt64)), .second, .unset, .unset, .unset, .unset] [(.long ((p6 &&& (255 : Int32)).toInt64))]))
  refine ownVia (fun _ k => XS.lstore X33.here hx rfl (hb hby at_77) rfl (l' := #[.val (.int p1), .val (.int p2), .val (.int p3), .val (.int p4), .val (.int p5), .val (.int p6), .val (.int tv), .val (.int nv), .val (.ref b1), .val (.ref b2), .val (.long (tv.toInt64)), .second, .val (.long ((p3 &&& (255 : Int32)).toInt64)), .second, .val (.long ((p4 &&& (255 : Int32)).toInt64)), .second, .val (.long ((p5 &&& (255 : Int32)).toInt64)), .second, .val (.long ((p6 &&& (255 : Int32)).toInt64)), .second, .unset, .unset]) rfl k) ?_
  show ownFin _ _ _ _ _ (T33.setTop (mkF m 79 #[.val (.int p1), .val (.int p2), .val (.int p3), .val (.int p4), .val (.int p5), .val (.int p6), .val (.int tv), .val (.int nv), .val (.ref b1), .val (.ref b2), .val (.long (tv.toInt64)), .second, .val (.long ((p3 &&& (255 : Int32)).toInt64)), .second, .val (.long ((p4 &&& (255 : Int32)).toInt64)), .second, .val (.long ((p5 &&& (255 : Int32)).toInt64)), .second, .val (.long ((p6 &&& (255 : Int32)).toInt64)), .second, .unset, .unset] []))
  refine ownVia (fun _ k => XS.iload X33.here hx rfl (hb hby at_79) rfl k) ?_
  show ownFin _ _ _ _ _ (T33.setTop (mkF m 81 #[.val (.int p1), .val (.int p2), .val (.int p3), .val (.int p4), .val (.int p5), .val (.int p6), .val (.int tv), .val (.int nv), .val (.ref b1), .val (.ref b2), .val (.long (tv.toInt64)), .second, .val (.long ((p3 &&& (255 : Int32)).toInt64)), .second, .val (.long ((p4 &&& (255 : Int32)).toInt64)), .second, .val (.long ((p5 &&& (255 : Int32)).toInt64)), .second, .val (.long ((p6 &&& (255 : Int32)).toInt64)), .second, .unset, .unset] [(.int nv)]))
  by_cases hc34 : nv = (0 : Int32)
  case pos =>
    have hc34I : (M : Int) = 0 := (own_eqi hM (by decide)).mp hc34
    refine ownVia (fun _ k => XS.ifNo X33.here hx rfl (hb hby at_81) rfl ((if0 _ _).trans (teq hc34).2) k) ?_
    show ownFin _ _ _ _ _ (T33.setTop (mkF m 84 #[.val (.int p1), .val (.int p2), .val (.int p3), .val (.int p4), .val (.int p5), .val (.int p6), .val (.int tv), .val (.int nv), .val (.ref b1), .val (.ref b2), .val (.long (tv.toInt64)), .second, .val (.long ((p3 &&& (255 : Int32)).toInt64)), .second, .val (.long ((p4 &&& (255 : Int32)).toInt64)), .second, .val (.long ((p5 &&& (255 : Int32)).toInt64)), .second, .val (.long ((p6 &&& (255 : Int32)).toInt64)), .second, .unset, .unset] []))
    refine ownVia (fun _ k => XS.lload X33.here hx rfl (hb hby at_84) rfl k) ?_
    show ownFin _ _ _ _ _ (T33.setTop (mkF m 86 #[.val (.int p1), .val (.int p2), .val (.int p3), .val (.int p4), .val (.int p5), .val (.int p6), .val (.int tv), .val (.int nv), .val (.ref b1), .val (.ref b2), .val (.long (tv.toInt64)), .second, .val (.long ((p3 &&& (255 : Int32)).toInt64)), .second, .val (.long ((p4 &&& (255 : Int32)).toInt64)), .second, .val (.long ((p5 &&& (255 : Int32)).toInt64)), .second, .val (.long ((p6 &&& (255 : Int32)).toInt64)), .second, .unset, .unset] [(.long (tv.toInt64))]))
    refine ownVia (fun _ k => XS.lstore X33.here hx rfl (hb hby at_86) rfl (l' := #[.val (.int p1), .val (.int p2), .val (.int p3), .val (.int p4), .val (.int p5), .val (.int p6), .val (.int tv), .val (.int nv), .val (.ref b1), .val (.ref b2), .val (.long (tv.toInt64)), .second, .val (.long ((p3 &&& (255 : Int32)).toInt64)), .second, .val (.long ((p4 &&& (255 : Int32)).toInt64)), .second, .val (.long ((p5 &&& (255 : Int32)).toInt64)), .second, .val (.long ((p6 &&& (255 : Int32)).toInt64)), .second, .val (.long (tv.toInt64)), .second]) rfl k) ?_
    show ownFin _ _ _ _ _ (T33.setTop (mkF m 88 #[.val (.int p1), .val (.int p2), .val (.int p3), .val (.int p4), .val (.int p5), .val (.int p6), .val (.int tv), .val (.int nv), .val (.ref b1), .val (.ref b2), .val (.long (tv.toInt64)), .second, .val (.long ((p3 &&& (255 : Int32)).toInt64)), .second, .val (.long ((p4 &&& (255 : Int32)).toInt64)), .second, .val (.long ((p5 &&& (255 : Int32)).toInt64)), .second, .val (.long ((p6 &&& (255 : Int32)).toInt64)), .second, .val (.long (tv.toInt64)), .second] []))
    refine ownVia (fun _ k => XS.goto X33.here hx rfl (pc0 := 88) (pc' := 204) rfl (hb hby at_88) (by decide) (by decide) k) ?_
    show ownFin _ _ _ _ _ (T33.setTop (mkF m 204 #[.val (.int p1), .val (.int p2), .val (.int p3), .val (.int p4), .val (.int p5), .val (.int p6), .val (.int tv), .val (.int nv), .val (.ref b1), .val (.ref b2), .val (.long (tv.toInt64)), .second, .val (.long ((p3 &&& (255 : Int32)).toInt64)), .second, .val (.long ((p4 &&& (255 : Int32)).toInt64)), .second, .val (.long ((p5 &&& (255 : Int32)).toInt64)), .second, .val (.long ((p6 &&& (255 : Int32)).toInt64)), .second, .val (.long (tv.toInt64)), .second] []))
    refine ownVia (fun _ k => XS.aload X33.here hx rfl (hb hby at_204) rfl rfl k) ?_
    show ownFin _ _ _ _ _ (T33.setTop (mkF m 206 #[.val (.int p1), .val (.int p2), .val (.int p3), .val (.int p4), .val (.int p5), .val (.int p6), .val (.int tv), .val (.int nv), .val (.ref b1), .val (.ref b2), .val (.long (tv.toInt64)), .second, .val (.long ((p3 &&& (255 : Int32)).toInt64)), .second, .val (.long ((p4 &&& (255 : Int32)).toInt64)), .second, .val (.long ((p5 &&& (255 : Int32)).toInt64)), .second, .val (.long ((p6 &&& (255 : Int32)).toInt64)), .second, .val (.long (tv.toInt64)), .second] [(.ref b2)]))
    refine ownCallV X33 hx hZ hown (hw _ (List.mem_of_getElem? (i := 33) rfl)) (hw _ (List.mem_of_getElem? (i := 34) rfl)) (hw _ (List.mem_of_getElem? (i := 36) rfl)) (hw _ (List.mem_of_getElem? (i := 36) rfl)) (hw _ (List.mem_of_getElem? (i := 35) rfl)) (hw _ (List.mem_of_getElem? (i := 9) rfl)) (hw _ (List.mem_of_getElem? (i := 37) rfl)) (by decide) (rfl : T33.heap = T33.heap) E_b2 (own_hc l Z a0 hw b2 T33.heap n0 tv b3 k_b1 nv (own_bl p3 p4 p5 p6 M) Z0 F_b2_type F_b2_value A_b3 (by rw [own_bllen p3 p4 p5 p6 hM8]; exact hM)) (by rw [hml]; rfl) [] [] (lenOf own_pd2 rfl) rfl rfl 0 rfl (hb hby at_206) (by decide) (by decide) (by decide) (by decide) ?_
    intro v35 T35 L35 X35 hq35
    obtain ⟨rfl, N35q, eq35⟩ := hq35
    have N35 := Fr.app N33 N35q
    have e35 : T35.heap = T33.heap := eq35
    show ownFin _ _ _ _ _ (T35.setTop (mkF m 209 #[.val (.int p1), .val (.int p2), .val (.int p3), .val (.int p4), .val (.int p5), .val (.int p6), .val (.int tv), .val (.int nv), .val (.ref b1), .val (.ref b2), .val (.long (tv.toInt64)), .second, .val (.long ((p3 &&& (255 : Int32)).toInt64)), .second, .val (.long ((p4 &&& (255 : Int32)).toInt64)), .second, .val (.long ((p5 &&& (255 : Int32)).toInt64)), .second, .val (.long ((p6 &&& (255 : Int32)).toInt64)), .second, .val (.long (tv.toInt64)), .second] [(.int (own_hash tv (own_bl p3 p4 p5 p6 M)))]))
    refine ownVia (fun _ k => XS.lload X35.here hx rfl (hb hby at_209) rfl k) ?_
    show ownFin _ _ _ _ _ (T35.setTop (mkF m 211 #[.val (.int p1), .val (.int p2), .val (.int p3), .val (.int p4), .val (.int p5), .val (.int p6), .val (.int tv), .val (.int nv), .val (.ref b1), .val (.ref b2), .val (.long (tv.toInt64)), .second, .val (.long ((p3 &&& (255 : Int32)).toInt64)), .second, .val (.long ((p4 &&& (255 : Int32)).toInt64)), .second, .val (.long ((p5 &&& (255 : Int32)).toInt64)), .second, .val (.long ((p6 &&& (255 : Int32)).toInt64)), .second, .val (.long (tv.toInt64)), .second] [(.long (tv.toInt64)), (.int (own_hash tv (own_bl p3 p4 p5 p6 M)))]))
    refine ownVia (fun _ k => XS.l2i X35.here hx rfl (hb hby at_211) rfl k) ?_
    show ownFin _ _ _ _ _ (T35.setTop (mkF m 212 #[.val (.int p1), .val (.int p2), .val (.int p3), .val (.int p4), .val (.int p5), .val (.int p6), .val (.int tv), .val (.int nv), .val (.ref b1), .val (.ref b2), .val (.long (tv.toInt64)), .second, .val (.long ((p3 &&& (255 : Int32)).toInt64)), .second, .val (.long ((p4 &&& (255 : Int32)).toInt64)), .second, .val (.long ((p5 &&& (255 : Int32)).toInt64)), .second, .val (.long ((p6 &&& (255 : Int32)).toInt64)), .second, .val (.long (tv.toInt64)), .second] [(.int ((tv.toInt64).toInt32)), (.int (own_hash tv (own_bl p3 p4 p5 p6 M)))]))
    have hMN : M = 0 := by omega
    refine ownVia (fun _ k => XS.icmpNo X35.here hx rfl (hb hby at_212) rfl (teq (by rw [hMN]; exact own_h0 tv p3 p4 p5 p6)).2 k) ?_
    show ownFin _ _ _ _ _ (T35.setTop (mkF m 215 #[.val (.int p1), .val (.int p2), .val (.int p3), .val (.int p4), .val (.int p5), .val (.int p6), .val (.int tv), .val (.int nv), .val (.ref b1), .val (.ref b2), .val (.long (tv.toInt64)), .second, .val (.long ((p3 &&& (255 : Int32)).toInt64)), .second, .val (.long ((p4 &&& (255 : Int32)).toInt64)), .second, .val (.long ((p5 &&& (255 : Int32)).toInt64)), .second, .val (.long ((p6 &&& (255 : Int32)).toInt64)), .second, .val (.long (tv.toInt64)), .second] []))
    refine ownVia (fun _ k => XS.iconst X35.here hx rfl (hb hby at_215) k) ?_
    show ownFin _ _ _ _ _ (T35.setTop (mkF m 216 #[.val (.int p1), .val (.int p2), .val (.int p3), .val (.int p4), .val (.int p5), .val (.int p6), .val (.int tv), .val (.int nv), .val (.ref b1), .val (.ref b2), .val (.long (tv.toInt64)), .second, .val (.long ((p3 &&& (255 : Int32)).toInt64)), .second, .val (.long ((p4 &&& (255 : Int32)).toInt64)), .second, .val (.long ((p5 &&& (255 : Int32)).toInt64)), .second, .val (.long ((p6 &&& (255 : Int32)).toInt64)), .second, .val (.long (tv.toInt64)), .second] [(.int (1 : Int32))]))
    refine ownVia (fun _ k => XS.goto X35.here hx rfl (pc0 := 216) (pc' := 220) rfl (hb hby at_216) (by decide) (by decide) k) ?_
    show ownFin _ _ _ _ _ (T35.setTop (mkF m 220 #[.val (.int p1), .val (.int p2), .val (.int p3), .val (.int p4), .val (.int p5), .val (.int p6), .val (.int tv), .val (.int nv), .val (.ref b1), .val (.ref b2), .val (.long (tv.toInt64)), .second, .val (.long ((p3 &&& (255 : Int32)).toInt64)), .second, .val (.long ((p4 &&& (255 : Int32)).toInt64)), .second, .val (.long ((p5 &&& (255 : Int32)).toInt64)), .second, .val (.long ((p6 &&& (255 : Int32)).toInt64)), .second, .val (.long (tv.toInt64)), .second] [(.int (1 : Int32))]))
    refine ownRetZ X35 hx hlk hret (hb hby at_220) (by decide) (by decide) (Or.inr rfl) ?_
    show (Q_own_law Z p1 p2 p3 p4 p5 p6 h0 n0 ) (some (.int (1 : Int32))) T35.heap _
    rw [e35]
    exact ⟨rfl, N35⟩
  case neg =>
    have hc34I : ¬ (M : Int) = 0 := fun q => hc34 ((own_eqi hM (by decide)).mpr q)
    refine ownVia (fun _ k => XS.ifYes X33.here hx rfl (pc0 := 81) (pc' := 91) rfl (hb hby at_81) rfl ((if0 _ _).trans (feq hc34).2) (by decide) (by decide) k) ?_
    show ownFin _ _ _ _ _ (T33.setTop (mkF m 91 #[.val (.int p1), .val (.int p2), .val (.int p3), .val (.int p4), .val (.int p5), .val (.int p6), .val (.int tv), .val (.int nv), .val (.ref b1), .val (.ref b2), .val (.long (tv.toInt64)), .second, .val (.long ((p3 &&& (255 : Int32)).toInt64)), .second, .val (.long ((p4 &&& (255 : Int32)).toInt64)), .second, .val (.long ((p5 &&& (255 : Int32)).toInt64)), .second, .val (.long ((p6 &&& (255 : Int32)).toInt64)), .second, .unset, .unset] []))
    refine ownVia (fun _ k => XS.iload X33.here hx rfl (hb hby at_91) rfl k) ?_
    show ownFin _ _ _ _ _ (T33.setTop (mkF m 93 #[.val (.int p1), .val (.int p2), .val (.int p3), .val (.int p4), .val (.int p5), .val (.int p6), .val (.int tv), .val (.int nv), .val (.ref b1), .val (.ref b2), .val (.long (tv.toInt64)), .second, .val (.long ((p3 &&& (255 : Int32)).toInt64)), .second, .val (.long ((p4 &&& (255 : Int32)).toInt64)), .second, .val (.long ((p5 &&& (255 : Int32)).toInt64)), .second, .val (.long ((p6 &&& (255 : Int32)).toInt64)), .second, .unset, .unset] [(.int nv)]))
    refine ownVia (fun _ k => XS.iconst X33.here hx rfl (hb hby at_93) k) ?_
    show ownFin _ _ _ _ _ (T33.setTop (mkF m 94 #[.val (.int p1), .val (.int p2), .val (.int p3), .val (.int p4), .val (.int p5), .val (.int p6), .val (.int tv), .val (.int nv), .val (.ref b1), .val (.ref b2), .val (.long (tv.toInt64)), .second, .val (.long ((p3 &&& (255 : Int32)).toInt64)), .second, .val (.long ((p4 &&& (255 : Int32)).toInt64)), .second, .val (.long ((p5 &&& (255 : Int32)).toInt64)), .second, .val (.long ((p6 &&& (255 : Int32)).toInt64)), .second, .unset, .unset] [(.int (1 : Int32)), (.int nv)]))
    by_cases hc36 : nv = (1 : Int32)
    case pos =>
      have hc36I : (M : Int) = 1 := (own_eqi hM (by decide)).mp hc36
      refine ownVia (fun _ k => XS.icmpNo X33.here hx rfl (hb hby at_94) rfl (teq hc36).2 k) ?_
      show ownFin _ _ _ _ _ (T33.setTop (mkF m 97 #[.val (.int p1), .val (.int p2), .val (.int p3), .val (.int p4), .val (.int p5), .val (.int p6), .val (.int tv), .val (.int nv), .val (.ref b1), .val (.ref b2), .val (.long (tv.toInt64)), .second, .val (.long ((p3 &&& (255 : Int32)).toInt64)), .second, .val (.long ((p4 &&& (255 : Int32)).toInt64)), .second, .val (.long ((p5 &&& (255 : Int32)).toInt64)), .second, .val (.long ((p6 &&& (255 : Int32)).toInt64)), .second, .unset, .unset] []))
      refine ownVia (fun _ k => XS.lload X33.here hx rfl (hb hby at_97) rfl k) ?_
      show ownFin _ _ _ _ _ (T33.setTop (mkF m 99 #[.val (.int p1), .val (.int p2), .val (.int p3), .val (.int p4), .val (.int p5), .val (.int p6), .val (.int tv), .val (.int nv), .val (.ref b1), .val (.ref b2), .val (.long (tv.toInt64)), .second, .val (.long ((p3 &&& (255 : Int32)).toInt64)), .second, .val (.long ((p4 &&& (255 : Int32)).toInt64)), .second, .val (.long ((p5 &&& (255 : Int32)).toInt64)), .second, .val (.long ((p6 &&& (255 : Int32)).toInt64)), .second, .unset, .unset] [(.long (tv.toInt64))]))
      refine ownVia (fun _ k => X33.ldc2Long hx hown (mvT hZ (hw _ (List.mem_of_getElem? (i := 32) rfl))) (g := (mkF m 99 #[.val (.int p1), .val (.int p2), .val (.int p3), .val (.int p4), .val (.int p5), .val (.int p6), .val (.int tv), .val (.int nv), .val (.ref b1), .val (.ref b2), .val (.long (tv.toInt64)), .second, .val (.long ((p3 &&& (255 : Int32)).toInt64)), .second, .val (.long ((p4 &&& (255 : Int32)).toInt64)), .second, .val (.long ((p5 &&& (255 : Int32)).toInt64)), .second, .val (.long ((p6 &&& (255 : Int32)).toInt64)), .second, .unset, .unset] [(.long (tv.toInt64))])) rfl (hb hby at_99) _ k) ?_
      show ownFin _ _ _ _ _ (T33.setTop (mkF m 102 #[.val (.int p1), .val (.int p2), .val (.int p3), .val (.int p4), .val (.int p5), .val (.int p6), .val (.int tv), .val (.int nv), .val (.ref b1), .val (.ref b2), .val (.long (tv.toInt64)), .second, .val (.long ((p3 &&& (255 : Int32)).toInt64)), .second, .val (.long ((p4 &&& (255 : Int32)).toInt64)), .second, .val (.long ((p5 &&& (255 : Int32)).toInt64)), .second, .val (.long ((p6 &&& (255 : Int32)).toInt64)), .second, .unset, .unset] [(.long (257 : Int64)), (.long (tv.toInt64))]))
      refine ownVia (fun _ k => XS.lmul X33.here hx rfl (hb hby at_102) rfl k) ?_
      show ownFin _ _ _ _ _ (T33.setTop (mkF m 103 #[.val (.int p1), .val (.int p2), .val (.int p3), .val (.int p4), .val (.int p5), .val (.int p6), .val (.int tv), .val (.int nv), .val (.ref b1), .val (.ref b2), .val (.long (tv.toInt64)), .second, .val (.long ((p3 &&& (255 : Int32)).toInt64)), .second, .val (.long ((p4 &&& (255 : Int32)).toInt64)), .second, .val (.long ((p5 &&& (255 : Int32)).toInt64)), .second, .val (.long ((p6 &&& (255 : Int32)).toInt64)), .second, .unset, .unset] [(.long ((tv.toInt64) * (257 : Int64)))]))
      refine ownVia (fun _ k => XS.lload X33.here hx rfl (hb hby at_103) rfl k) ?_
      show ownFin _ _ _ _ _ (T33.setTop (mkF m 105 #[.val (.int p1), .val (.int p2), .val (.int p3), .val (.int p4), .val (.int p5), .val (.int p6), .val (.int tv), .val (.int nv), .val (.ref b1), .val (.ref b2), .val (.long (tv.toInt64)), .second, .val (.long ((p3 &&& (255 : Int32)).toInt64)), .second, .val (.long ((p4 &&& (255 : Int32)).toInt64)), .second, .val (.long ((p5 &&& (255 : Int32)).toInt64)), .second, .val (.long ((p6 &&& (255 : Int32)).toInt64)), .second, .unset, .unset] [(.long ((p3 &&& (255 : Int32)).toInt64)), (.long ((tv.toInt64) * (257 : Int64)))]))
      refine ownVia (fun _ k => XS.ladd X33.here hx rfl (hb hby at_105) rfl k) ?_
      show ownFin _ _ _ _ _ (T33.setTop (mkF m 106 #[.val (.int p1), .val (.int p2), .val (.int p3), .val (.int p4), .val (.int p5), .val (.int p6), .val (.int tv), .val (.int nv), .val (.ref b1), .val (.ref b2), .val (.long (tv.toInt64)), .second, .val (.long ((p3 &&& (255 : Int32)).toInt64)), .second, .val (.long ((p4 &&& (255 : Int32)).toInt64)), .second, .val (.long ((p5 &&& (255 : Int32)).toInt64)), .second, .val (.long ((p6 &&& (255 : Int32)).toInt64)), .second, .unset, .unset] [(.long (((tv.toInt64) * (257 : Int64)) + ((p3 &&& (255 : Int32)).toInt64)))]))
      refine ownVia (fun _ k => XS.lstore X33.here hx rfl (hb hby at_106) rfl (l' := #[.val (.int p1), .val (.int p2), .val (.int p3), .val (.int p4), .val (.int p5), .val (.int p6), .val (.int tv), .val (.int nv), .val (.ref b1), .val (.ref b2), .val (.long (tv.toInt64)), .second, .val (.long ((p3 &&& (255 : Int32)).toInt64)), .second, .val (.long ((p4 &&& (255 : Int32)).toInt64)), .second, .val (.long ((p5 &&& (255 : Int32)).toInt64)), .second, .val (.long ((p6 &&& (255 : Int32)).toInt64)), .second, .val (.long (((tv.toInt64) * (257 : Int64)) + ((p3 &&& (255 : Int32)).toInt64))), .second]) rfl k) ?_
      show ownFin _ _ _ _ _ (T33.setTop (mkF m 108 #[.val (.int p1), .val (.int p2), .val (.int p3), .val (.int p4), .val (.int p5), .val (.int p6), .val (.int tv), .val (.int nv), .val (.ref b1), .val (.ref b2), .val (.long (tv.toInt64)), .second, .val (.long ((p3 &&& (255 : Int32)).toInt64)), .second, .val (.long ((p4 &&& (255 : Int32)).toInt64)), .second, .val (.long ((p5 &&& (255 : Int32)).toInt64)), .second, .val (.long ((p6 &&& (255 : Int32)).toInt64)), .second, .val (.long (((tv.toInt64) * (257 : Int64)) + ((p3 &&& (255 : Int32)).toInt64))), .second] []))
      refine ownVia (fun _ k => XS.goto X33.here hx rfl (pc0 := 108) (pc' := 204) rfl (hb hby at_108) (by decide) (by decide) k) ?_
      show ownFin _ _ _ _ _ (T33.setTop (mkF m 204 #[.val (.int p1), .val (.int p2), .val (.int p3), .val (.int p4), .val (.int p5), .val (.int p6), .val (.int tv), .val (.int nv), .val (.ref b1), .val (.ref b2), .val (.long (tv.toInt64)), .second, .val (.long ((p3 &&& (255 : Int32)).toInt64)), .second, .val (.long ((p4 &&& (255 : Int32)).toInt64)), .second, .val (.long ((p5 &&& (255 : Int32)).toInt64)), .second, .val (.long ((p6 &&& (255 : Int32)).toInt64)), .second, .val (.long (((tv.toInt64) * (257 : Int64)) + ((p3 &&& (255 : Int32)).toInt64))), .second] []))
      refine ownVia (fun _ k => XS.aload X33.here hx rfl (hb hby at_204) rfl rfl k) ?_
      show ownFin _ _ _ _ _ (T33.setTop (mkF m 206 #[.val (.int p1), .val (.int p2), .val (.int p3), .val (.int p4), .val (.int p5), .val (.int p6), .val (.int tv), .val (.int nv), .val (.ref b1), .val (.ref b2), .val (.long (tv.toInt64)), .second, .val (.long ((p3 &&& (255 : Int32)).toInt64)), .second, .val (.long ((p4 &&& (255 : Int32)).toInt64)), .second, .val (.long ((p5 &&& (255 : Int32)).toInt64)), .second, .val (.long ((p6 &&& (255 : Int32)).toInt64)), .second, .val (.long (((tv.toInt64) * (257 : Int64)) + ((p3 &&& (255 : Int32)).toInt64))), .second] [(.ref b2)]))
      refine ownCallV X33 hx hZ hown (hw _ (List.mem_of_getElem? (i := 33) rfl)) (hw _ (List.mem_of_getElem? (i := 34) rfl)) (hw _ (List.mem_of_getElem? (i := 36) rfl)) (hw _ (List.mem_of_getElem? (i := 36) rfl)) (hw _ (List.mem_of_getElem? (i := 35) rfl)) (hw _ (List.mem_of_getElem? (i := 9) rfl)) (hw _ (List.mem_of_getElem? (i := 37) rfl)) (by decide) (rfl : T33.heap = T33.heap) E_b2 (own_hc l Z a0 hw b2 T33.heap n0 tv b3 k_b1 nv (own_bl p3 p4 p5 p6 M) Z0 F_b2_type F_b2_value A_b3 (by rw [own_bllen p3 p4 p5 p6 hM8]; exact hM)) (by rw [hml]; rfl) [] [] (lenOf own_pd2 rfl) rfl rfl 0 rfl (hb hby at_206) (by decide) (by decide) (by decide) (by decide) ?_
      intro v37 T37 L37 X37 hq37
      obtain ⟨rfl, N37q, eq37⟩ := hq37
      have N37 := Fr.app N33 N37q
      have e37 : T37.heap = T33.heap := eq37
      show ownFin _ _ _ _ _ (T37.setTop (mkF m 209 #[.val (.int p1), .val (.int p2), .val (.int p3), .val (.int p4), .val (.int p5), .val (.int p6), .val (.int tv), .val (.int nv), .val (.ref b1), .val (.ref b2), .val (.long (tv.toInt64)), .second, .val (.long ((p3 &&& (255 : Int32)).toInt64)), .second, .val (.long ((p4 &&& (255 : Int32)).toInt64)), .second, .val (.long ((p5 &&& (255 : Int32)).toInt64)), .second, .val (.long ((p6 &&& (255 : Int32)).toInt64)), .second, .val (.long (((tv.toInt64) * (257 : Int64)) + ((p3 &&& (255 : Int32)).toInt64))), .second] [(.int (own_hash tv (own_bl p3 p4 p5 p6 M)))]))
      refine ownVia (fun _ k => XS.lload X37.here hx rfl (hb hby at_209) rfl k) ?_
      show ownFin _ _ _ _ _ (T37.setTop (mkF m 211 #[.val (.int p1), .val (.int p2), .val (.int p3), .val (.int p4), .val (.int p5), .val (.int p6), .val (.int tv), .val (.int nv), .val (.ref b1), .val (.ref b2), .val (.long (tv.toInt64)), .second, .val (.long ((p3 &&& (255 : Int32)).toInt64)), .second, .val (.long ((p4 &&& (255 : Int32)).toInt64)), .second, .val (.long ((p5 &&& (255 : Int32)).toInt64)), .second, .val (.long ((p6 &&& (255 : Int32)).toInt64)), .second, .val (.long (((tv.toInt64) * (257 : Int64)) + ((p3 &&& (255 : Int32)).toInt64))), .second] [(.long (((tv.toInt64) * (257 : Int64)) + ((p3 &&& (255 : Int32)).toInt64))), (.int (own_hash tv (own_bl p3 p4 p5 p6 M)))]))
      refine ownVia (fun _ k => XS.l2i X37.here hx rfl (hb hby at_211) rfl k) ?_
      show ownFin _ _ _ _ _ (T37.setTop (mkF m 212 #[.val (.int p1), .val (.int p2), .val (.int p3), .val (.int p4), .val (.int p5), .val (.int p6), .val (.int tv), .val (.int nv), .val (.ref b1), .val (.ref b2), .val (.long (tv.toInt64)), .second, .val (.long ((p3 &&& (255 : Int32)).toInt64)), .second, .val (.long ((p4 &&& (255 : Int32)).toInt64)), .second, .val (.long ((p5 &&& (255 : Int32)).toInt64)), .second, .val (.long ((p6 &&& (255 : Int32)).toInt64)), .second, .val (.long (((tv.toInt64) * (257 : Int64)) + ((p3 &&& (255 : Int32)).toInt64))), .second] [(.int ((((tv.toInt64) * (257 : Int64)) + ((p3 &&& (255 : Int32)).toInt64)).toInt32)), (.int (own_hash tv (own_bl p3 p4 p5 p6 M)))]))
      have hMN : M = 1 := by omega
      refine ownVia (fun _ k => XS.icmpNo X37.here hx rfl (hb hby at_212) rfl (teq (by rw [hMN]; exact own_h1 tv p3 p4 p5 p6)).2 k) ?_
      show ownFin _ _ _ _ _ (T37.setTop (mkF m 215 #[.val (.int p1), .val (.int p2), .val (.int p3), .val (.int p4), .val (.int p5), .val (.int p6), .val (.int tv), .val (.int nv), .val (.ref b1), .val (.ref b2), .val (.long (tv.toInt64)), .second, .val (.long ((p3 &&& (255 : Int32)).toInt64)), .second, .val (.long ((p4 &&& (255 : Int32)).toInt64)), .second, .val (.long ((p5 &&& (255 : Int32)).toInt64)), .second, .val (.long ((p6 &&& (255 : Int32)).toInt64)), .second, .val (.long (((tv.toInt64) * (257 : Int64)) + ((p3 &&& (255 : Int32)).toInt64))), .second] []))
      refine ownVia (fun _ k => XS.iconst X37.here hx rfl (hb hby at_215) k) ?_
      show ownFin _ _ _ _ _ (T37.setTop (mkF m 216 #[.val (.int p1), .val (.int p2), .val (.int p3), .val (.int p4), .val (.int p5), .val (.int p6), .val (.int tv), .val (.int nv), .val (.ref b1), .val (.ref b2), .val (.long (tv.toInt64)), .second, .val (.long ((p3 &&& (255 : Int32)).toInt64)), .second, .val (.long ((p4 &&& (255 : Int32)).toInt64)), .second, .val (.long ((p5 &&& (255 : Int32)).toInt64)), .second, .val (.long ((p6 &&& (255 : Int32)).toInt64)), .second, .val (.long (((tv.toInt64) * (257 : Int64)) + ((p3 &&& (255 : Int32)).toInt64))), .second] [(.int (1 : Int32))]))
      refine ownVia (fun _ k => XS.goto X37.here hx rfl (pc0 := 216) (pc' := 220) rfl (hb hby at_216) (by decide) (by decide) k) ?_
      show ownFin _ _ _ _ _ (T37.setTop (mkF m 220 #[.val (.int p1), .val (.int p2), .val (.int p3), .val (.int p4), .val (.int p5), .val (.int p6), .val (.int tv), .val (.int nv), .val (.ref b1), .val (.ref b2), .val (.long (tv.toInt64)), .second, .val (.long ((p3 &&& (255 : Int32)).toInt64)), .second, .val (.long ((p4 &&& (255 : Int32)).toInt64)), .second, .val (.long ((p5 &&& (255 : Int32)).toInt64)), .second, .val (.long ((p6 &&& (255 : Int32)).toInt64)), .second, .val (.long (((tv.toInt64) * (257 : Int64)) + ((p3 &&& (255 : Int32)).toInt64))), .second] [(.int (1 : Int32))]))
      refine ownRetZ X37 hx hlk hret (hb hby at_220) (by decide) (by decide) (Or.inr rfl) ?_
      show (Q_own_law Z p1 p2 p3 p4 p5 p6 h0 n0 ) (some (.int (1 : Int32))) T37.heap _
      rw [e37]
      exact ⟨rfl, N37⟩
    case neg =>
      have hc36I : ¬ (M : Int) = 1 := fun q => hc36 ((own_eqi hM (by decide)).mpr q)
      refine ownVia (fun _ k => XS.icmpYes X33.here hx rfl (pc0 := 94) (pc' := 111) rfl (hb hby at_94) rfl (feq hc36).2 (by decide) (by decide) k) ?_
      show ownFin _ _ _ _ _ (T33.setTop (mkF m 111 #[.val (.int p1), .val (.int p2), .val (.int p3), .val (.int p4), .val (.int p5), .val (.int p6), .val (.int tv), .val (.int nv), .val (.ref b1), .val (.ref b2), .val (.long (tv.toInt64)), .second, .val (.long ((p3 &&& (255 : Int32)).toInt64)), .second, .val (.long ((p4 &&& (255 : Int32)).toInt64)), .second, .val (.long ((p5 &&& (255 : Int32)).toInt64)), .second, .val (.long ((p6 &&& (255 : Int32)).toInt64)), .second, .unset, .unset] []))
      refine ownVia (fun _ k => XS.iload X33.here hx rfl (hb hby at_111) rfl k) ?_
      show ownFin _ _ _ _ _ (T33.setTop (mkF m 113 #[.val (.int p1), .val (.int p2), .val (.int p3), .val (.int p4), .val (.int p5), .val (.int p6), .val (.int tv), .val (.int nv), .val (.ref b1), .val (.ref b2), .val (.long (tv.toInt64)), .second, .val (.long ((p3 &&& (255 : Int32)).toInt64)), .second, .val (.long ((p4 &&& (255 : Int32)).toInt64)), .second, .val (.long ((p5 &&& (255 : Int32)).toInt64)), .second, .val (.long ((p6 &&& (255 : Int32)).toInt64)), .second, .unset, .unset] [(.int nv)]))
      refine ownVia (fun _ k => XS.iconst X33.here hx rfl (hb hby at_113) k) ?_
      show ownFin _ _ _ _ _ (T33.setTop (mkF m 114 #[.val (.int p1), .val (.int p2), .val (.int p3), .val (.int p4), .val (.int p5), .val (.int p6), .val (.int tv), .val (.int nv), .val (.ref b1), .val (.ref b2), .val (.long (tv.toInt64)), .second, .val (.long ((p3 &&& (255 : Int32)).toInt64)), .second, .val (.long ((p4 &&& (255 : Int32)).toInt64)), .second, .val (.long ((p5 &&& (255 : Int32)).toInt64)), .second, .val (.long ((p6 &&& (255 : Int32)).toInt64)), .second, .unset, .unset] [(.int (2 : Int32)), (.int nv)]))
      by_cases hc38 : nv = (2 : Int32)
      case pos =>
        have hc38I : (M : Int) = 2 := (own_eqi hM (by decide)).mp hc38
        refine ownVia (fun _ k => XS.icmpNo X33.here hx rfl (hb hby at_114) rfl (teq hc38).2 k) ?_
        show ownFin _ _ _ _ _ (T33.setTop (mkF m 117 #[.val (.int p1), .val (.int p2), .val (.int p3), .val (.int p4), .val (.int p5), .val (.int p6), .val (.int tv), .val (.int nv), .val (.ref b1), .val (.ref b2), .val (.long (tv.toInt64)), .second, .val (.long ((p3 &&& (255 : Int32)).toInt64)), .second, .val (.long ((p4 &&& (255 : Int32)).toInt64)), .second, .val (.long ((p5 &&& (255 : Int32)).toInt64)), .second, .val (.long ((p6 &&& (255 : Int32)).toInt64)), .second, .unset, .unset] []))
        refine ownVia (fun _ k => XS.lload X33.here hx rfl (hb hby at_117) rfl k) ?_
        show ownFin _ _ _ _ _ (T33.setTop (mkF m 119 #[.val (.int p1), .val (.int p2), .val (.int p3), .val (.int p4), .val (.int p5), .val (.int p6), .val (.int tv), .val (.int nv), .val (.ref b1), .val (.ref b2), .val (.long (tv.toInt64)), .second, .val (.long ((p3 &&& (255 : Int32)).toInt64)), .second, .val (.long ((p4 &&& (255 : Int32)).toInt64)), .second, .val (.long ((p5 &&& (255 : Int32)).toInt64)), .second, .val (.long ((p6 &&& (255 : Int32)).toInt64)), .second, .unset, .unset] [(.long (tv.toInt64))]))
        refine ownVia (fun _ k => X33.ldc2Long hx hown (mvT hZ (hw _ (List.mem_of_getElem? (i := 31) rfl))) (g := (mkF m 119 #[.val (.int p1), .val (.int p2), .val (.int p3), .val (.int p4), .val (.int p5), .val (.int p6), .val (.int tv), .val (.int nv), .val (.ref b1), .val (.ref b2), .val (.long (tv.toInt64)), .second, .val (.long ((p3 &&& (255 : Int32)).toInt64)), .second, .val (.long ((p4 &&& (255 : Int32)).toInt64)), .second, .val (.long ((p5 &&& (255 : Int32)).toInt64)), .second, .val (.long ((p6 &&& (255 : Int32)).toInt64)), .second, .unset, .unset] [(.long (tv.toInt64))])) rfl (hb hby at_119) _ k) ?_
        show ownFin _ _ _ _ _ (T33.setTop (mkF m 122 #[.val (.int p1), .val (.int p2), .val (.int p3), .val (.int p4), .val (.int p5), .val (.int p6), .val (.int tv), .val (.int nv), .val (.ref b1), .val (.ref b2), .val (.long (tv.toInt64)), .second, .val (.long ((p3 &&& (255 : Int32)).toInt64)), .second, .val (.long ((p4 &&& (255 : Int32)).toInt64)), .second, .val (.long ((p5 &&& (255 : Int32)).toInt64)), .second, .val (.long ((p6 &&& (255 : Int32)).toInt64)), .second, .unset, .unset] [(.long (66049 : Int64)), (.long (tv.toInt64))]))
        refine ownVia (fun _ k => XS.lmul X33.here hx rfl (hb hby at_122) rfl k) ?_
        show ownFin _ _ _ _ _ (T33.setTop (mkF m 123 #[.val (.int p1), .val (.int p2), .val (.int p3), .val (.int p4), .val (.int p5), .val (.int p6), .val (.int tv), .val (.int nv), .val (.ref b1), .val (.ref b2), .val (.long (tv.toInt64)), .second, .val (.long ((p3 &&& (255 : Int32)).toInt64)), .second, .val (.long ((p4 &&& (255 : Int32)).toInt64)), .second, .val (.long ((p5 &&& (255 : Int32)).toInt64)), .second, .val (.long ((p6 &&& (255 : Int32)).toInt64)), .second, .unset, .unset] [(.long ((tv.toInt64) * (66049 : Int64)))]))
        refine ownVia (fun _ k => XS.lload X33.here hx rfl (hb hby at_123) rfl k) ?_
        show ownFin _ _ _ _ _ (T33.setTop (mkF m 125 #[.val (.int p1), .val (.int p2), .val (.int p3), .val (.int p4), .val (.int p5), .val (.int p6), .val (.int tv), .val (.int nv), .val (.ref b1), .val (.ref b2), .val (.long (tv.toInt64)), .second, .val (.long ((p3 &&& (255 : Int32)).toInt64)), .second, .val (.long ((p4 &&& (255 : Int32)).toInt64)), .second, .val (.long ((p5 &&& (255 : Int32)).toInt64)), .second, .val (.long ((p6 &&& (255 : Int32)).toInt64)), .second, .unset, .unset] [(.long ((p3 &&& (255 : Int32)).toInt64)), (.long ((tv.toInt64) * (66049 : Int64)))]))
        refine ownVia (fun _ k => X33.ldc2Long hx hown (mvT hZ (hw _ (List.mem_of_getElem? (i := 32) rfl))) (g := (mkF m 125 #[.val (.int p1), .val (.int p2), .val (.int p3), .val (.int p4), .val (.int p5), .val (.int p6), .val (.int tv), .val (.int nv), .val (.ref b1), .val (.ref b2), .val (.long (tv.toInt64)), .second, .val (.long ((p3 &&& (255 : Int32)).toInt64)), .second, .val (.long ((p4 &&& (255 : Int32)).toInt64)), .second, .val (.long ((p5 &&& (255 : Int32)).toInt64)), .second, .val (.long ((p6 &&& (255 : Int32)).toInt64)), .second, .unset, .unset] [(.long ((p3 &&& (255 : Int32)).toInt64)), (.long ((tv.toInt64) * (66049 : Int64)))])) rfl (hb hby at_125) _ k) ?_
        show ownFin _ _ _ _ _ (T33.setTop (mkF m 128 #[.val (.int p1), .val (.int p2), .val (.int p3), .val (.int p4), .val (.int p5), .val (.int p6), .val (.int tv), .val (.int nv), .val (.ref b1), .val (.ref b2), .val (.long (tv.toInt64)), .second, .val (.long ((p3 &&& (255 : Int32)).toInt64)), .second, .val (.long ((p4 &&& (255 : Int32)).toInt64)), .second, .val (.long ((p5 &&& (255 : Int32)).toInt64)), .second, .val (.long ((p6 &&& (255 : Int32)).toInt64)), .second, .unset, .unset] [(.long (257 : Int64)), (.long ((p3 &&& (255 : Int32)).toInt64)), (.long ((tv.toInt64) * (66049 : Int64)))]))
        refine ownVia (fun _ k => XS.lmul X33.here hx rfl (hb hby at_128) rfl k) ?_
        show ownFin _ _ _ _ _ (T33.setTop (mkF m 129 #[.val (.int p1), .val (.int p2), .val (.int p3), .val (.int p4), .val (.int p5), .val (.int p6), .val (.int tv), .val (.int nv), .val (.ref b1), .val (.ref b2), .val (.long (tv.toInt64)), .second, .val (.long ((p3 &&& (255 : Int32)).toInt64)), .second, .val (.long ((p4 &&& (255 : Int32)).toInt64)), .second, .val (.long ((p5 &&& (255 : Int32)).toInt64)), .second, .val (.long ((p6 &&& (255 : Int32)).toInt64)), .second, .unset, .unset] [(.long (((p3 &&& (255 : Int32)).toInt64) * (257 : Int64))), (.long ((tv.toInt64) * (66049 : Int64)))]))
        refine ownVia (fun _ k => XS.ladd X33.here hx rfl (hb hby at_129) rfl k) ?_
        show ownFin _ _ _ _ _ (T33.setTop (mkF m 130 #[.val (.int p1), .val (.int p2), .val (.int p3), .val (.int p4), .val (.int p5), .val (.int p6), .val (.int tv), .val (.int nv), .val (.ref b1), .val (.ref b2), .val (.long (tv.toInt64)), .second, .val (.long ((p3 &&& (255 : Int32)).toInt64)), .second, .val (.long ((p4 &&& (255 : Int32)).toInt64)), .second, .val (.long ((p5 &&& (255 : Int32)).toInt64)), .second, .val (.long ((p6 &&& (255 : Int32)).toInt64)), .second, .unset, .unset] [(.long (((tv.toInt64) * (66049 : Int64)) + (((p3 &&& (255 : Int32)).toInt64) * (257 : Int64))))]))
        refine ownVia (fun _ k => XS.lload X33.here hx rfl (hb hby at_130) rfl k) ?_
        show ownFin _ _ _ _ _ (T33.setTop (mkF m 132 #[.val (.int p1), .val (.int p2), .val (.int p3), .val (.int p4), .val (.int p5), .val (.int p6), .val (.int tv), .val (.int nv), .val (.ref b1), .val (.ref b2), .val (.long (tv.toInt64)), .second, .val (.long ((p3 &&& (255 : Int32)).toInt64)), .second, .val (.long ((p4 &&& (255 : Int32)).toInt64)), .second, .val (.long ((p5 &&& (255 : Int32)).toInt64)), .second, .val (.long ((p6 &&& (255 : Int32)).toInt64)), .second, .unset, .unset] [(.long ((p4 &&& (255 : Int32)).toInt64)), (.long (((tv.toInt64) * (66049 : Int64)) + (((p3 &&& (255 : Int32)).toInt64) * (257 : Int64))))]))
        refine ownVia (fun _ k => XS.ladd X33.here hx rfl (hb hby at_132) rfl k) ?_
        show ownFin _ _ _ _ _ (T33.setTop (mkF m 133 #[.val (.int p1), .val (.int p2), .val (.int p3), .val (.int p4), .val (.int p5), .val (.int p6), .val (.int tv), .val (.int nv), .val (.ref b1), .val (.ref b2), .val (.long (tv.toInt64)), .second, .val (.long ((p3 &&& (255 : Int32)).toInt64)), .second, .val (.long ((p4 &&& (255 : Int32)).toInt64)), .second, .val (.long ((p5 &&& (255 : Int32)).toInt64)), .second, .val (.long ((p6 &&& (255 : Int32)).toInt64)), .second, .unset, .unset] [(.long ((((tv.toInt64) * (66049 : Int64)) + (((p3 &&& (255 : Int32)).toInt64) * (257 : Int64))) + ((p4 &&& (255 : Int32)).toInt64)))]))
        refine ownVia (fun _ k => XS.lstore X33.here hx rfl (hb hby at_133) rfl (l' := #[.val (.int p1), .val (.int p2), .val (.int p3), .val (.int p4), .val (.int p5), .val (.int p6), .val (.int tv), .val (.int nv), .val (.ref b1), .val (.ref b2), .val (.long (tv.toInt64)), .second, .val (.long ((p3 &&& (255 : Int32)).toInt64)), .second, .val (.long ((p4 &&& (255 : Int32)).toInt64)), .second, .val (.long ((p5 &&& (255 : Int32)).toInt64)), .second, .val (.long ((p6 &&& (255 : Int32)).toInt64)), .second, .val (.long ((((tv.toInt64) * (66049 : Int64)) + (((p3 &&& (255 : Int32)).toInt64) * (257 : Int64))) + ((p4 &&& (255 : Int32)).toInt64))), .second]) rfl k) ?_
        show ownFin _ _ _ _ _ (T33.setTop (mkF m 135 #[.val (.int p1), .val (.int p2), .val (.int p3), .val (.int p4), .val (.int p5), .val (.int p6), .val (.int tv), .val (.int nv), .val (.ref b1), .val (.ref b2), .val (.long (tv.toInt64)), .second, .val (.long ((p3 &&& (255 : Int32)).toInt64)), .second, .val (.long ((p4 &&& (255 : Int32)).toInt64)), .second, .val (.long ((p5 &&& (255 : Int32)).toInt64)), .second, .val (.long ((p6 &&& (255 : Int32)).toInt64)), .second, .val (.long ((((tv.toInt64) * (66049 : Int64)) + (((p3 &&& (255 : Int32)).toInt64) * (257 : Int64))) + ((p4 &&& (255 : Int32)).toInt64))), .second] []))
        refine ownVia (fun _ k => XS.goto X33.here hx rfl (pc0 := 135) (pc' := 204) rfl (hb hby at_135) (by decide) (by decide) k) ?_
        show ownFin _ _ _ _ _ (T33.setTop (mkF m 204 #[.val (.int p1), .val (.int p2), .val (.int p3), .val (.int p4), .val (.int p5), .val (.int p6), .val (.int tv), .val (.int nv), .val (.ref b1), .val (.ref b2), .val (.long (tv.toInt64)), .second, .val (.long ((p3 &&& (255 : Int32)).toInt64)), .second, .val (.long ((p4 &&& (255 : Int32)).toInt64)), .second, .val (.long ((p5 &&& (255 : Int32)).toInt64)), .second, .val (.long ((p6 &&& (255 : Int32)).toInt64)), .second, .val (.long ((((tv.toInt64) * (66049 : Int64)) + (((p3 &&& (255 : Int32)).toInt64) * (257 : Int64))) + ((p4 &&& (255 : Int32)).toInt64))), .second] []))
        refine ownVia (fun _ k => XS.aload X33.here hx rfl (hb hby at_204) rfl rfl k) ?_
        show ownFin _ _ _ _ _ (T33.setTop (mkF m 206 #[.val (.int p1), .val (.int p2), .val (.int p3), .val (.int p4), .val (.int p5), .val (.int p6), .val (.int tv), .val (.int nv), .val (.ref b1), .val (.ref b2), .val (.long (tv.toInt64)), .second, .val (.long ((p3 &&& (255 : Int32)).toInt64)), .second, .val (.long ((p4 &&& (255 : Int32)).toInt64)), .second, .val (.long ((p5 &&& (255 : Int32)).toInt64)), .second, .val (.long ((p6 &&& (255 : Int32)).toInt64)), .second, .val (.long ((((tv.toInt64) * (66049 : Int64)) + (((p3 &&& (255 : Int32)).toInt64) * (257 : Int64))) + ((p4 &&& (255 : Int32)).toInt64))), .second] [(.ref b2)]))
        refine ownCallV X33 hx hZ hown (hw _ (List.mem_of_getElem? (i := 33) rfl)) (hw _ (List.mem_of_getElem? (i := 34) rfl)) (hw _ (List.mem_of_getElem? (i := 36) rfl)) (hw _ (List.mem_of_getElem? (i := 36) rfl)) (hw _ (List.mem_of_getElem? (i := 35) rfl)) (hw _ (List.mem_of_getElem? (i := 9) rfl)) (hw _ (List.mem_of_getElem? (i := 37) rfl)) (by decide) (rfl : T33.heap = T33.heap) E_b2 (own_hc l Z a0 hw b2 T33.heap n0 tv b3 k_b1 nv (own_bl p3 p4 p5 p6 M) Z0 F_b2_type F_b2_value A_b3 (by rw [own_bllen p3 p4 p5 p6 hM8]; exact hM)) (by rw [hml]; rfl) [] [] (lenOf own_pd2 rfl) rfl rfl 0 rfl (hb hby at_206) (by decide) (by decide) (by decide) (by decide) ?_
        intro v39 T39 L39 X39 hq39
        obtain ⟨rfl, N39q, eq39⟩ := hq39
        have N39 := Fr.app N33 N39q
        have e39 : T39.heap = T33.heap := eq39
        show ownFin _ _ _ _ _ (T39.setTop (mkF m 209 #[.val (.int p1), .val (.int p2), .val (.int p3), .val (.int p4), .val (.int p5), .val (.int p6), .val (.int tv), .val (.int nv), .val (.ref b1), .val (.ref b2), .val (.long (tv.toInt64)), .second, .val (.long ((p3 &&& (255 : Int32)).toInt64)), .second, .val (.long ((p4 &&& (255 : Int32)).toInt64)), .second, .val (.long ((p5 &&& (255 : Int32)).toInt64)), .second, .val (.long ((p6 &&& (255 : Int32)).toInt64)), .second, .val (.long ((((tv.toInt64) * (66049 : Int64)) + (((p3 &&& (255 : Int32)).toInt64) * (257 : Int64))) + ((p4 &&& (255 : Int32)).toInt64))), .second] [(.int (own_hash tv (own_bl p3 p4 p5 p6 M)))]))
        refine ownVia (fun _ k => XS.lload X39.here hx rfl (hb hby at_209) rfl k) ?_
        show ownFin _ _ _ _ _ (T39.setTop (mkF m 211 #[.val (.int p1), .val (.int p2), .val (.int p3), .val (.int p4), .val (.int p5), .val (.int p6), .val (.int tv), .val (.int nv), .val (.ref b1), .val (.ref b2), .val (.long (tv.toInt64)), .second, .val (.long ((p3 &&& (255 : Int32)).toInt64)), .second, .val (.long ((p4 &&& (255 : Int32)).toInt64)), .second, .val (.long ((p5 &&& (255 : Int32)).toInt64)), .second, .val (.long ((p6 &&& (255 : Int32)).toInt64)), .second, .val (.long ((((tv.toInt64) * (66049 : Int64)) + (((p3 &&& (255 : Int32)).toInt64) * (257 : Int64))) + ((p4 &&& (255 : Int32)).toInt64))), .second] [(.long ((((tv.toInt64) * (66049 : Int64)) + (((p3 &&& (255 : Int32)).toInt64) * (257 : Int64))) + ((p4 &&& (255 : Int32)).toInt64))), (.int (own_hash tv (own_bl p3 p4 p5 p6 M)))]))
        refine ownVia (fun _ k => XS.l2i X39.here hx rfl (hb hby at_211) rfl k) ?_
        show ownFin _ _ _ _ _ (T39.setTop (mkF m 212 #[.val (.int p1), .val (.int p2), .val (.int p3), .val (.int p4), .val (.int p5), .val (.int p6), .val (.int tv), .val (.int nv), .val (.ref b1), .val (.ref b2), .val (.long (tv.toInt64)), .second, .val (.long ((p3 &&& (255 : Int32)).toInt64)), .second, .val (.long ((p4 &&& (255 : Int32)).toInt64)), .second, .val (.long ((p5 &&& (255 : Int32)).toInt64)), .second, .val (.long ((p6 &&& (255 : Int32)).toInt64)), .second, .val (.long ((((tv.toInt64) * (66049 : Int64)) + (((p3 &&& (255 : Int32)).toInt64) * (257 : Int64))) + ((p4 &&& (255 : Int32)).toInt64))), .second] [(.int (((((tv.toInt64) * (66049 : Int64)) + (((p3 &&& (255 : Int32)).toInt64) * (257 : Int64))) + ((p4 &&& (255 : Int32)).toInt64)).toInt32)), (.int (own_hash tv (own_bl p3 p4 p5 p6 M)))]))
        have hMN : M = 2 := by omega
        refine ownVia (fun _ k => XS.icmpNo X39.here hx rfl (hb hby at_212) rfl (teq (by rw [hMN]; exact own_h2 tv p3 p4 p5 p6)).2 k) ?_
        show ownFin _ _ _ _ _ (T39.setTop (mkF m 215 #[.val (.int p1), .val (.int p2), .val (.int p3), .val (.int p4), .val (.int p5), .val (.int p6), .val (.int tv), .val (.int nv), .val (.ref b1), .val (.ref b2), .val (.long (tv.toInt64)), .second, .val (.long ((p3 &&& (255 : Int32)).toInt64)), .second, .val (.long ((p4 &&& (255 : Int32)).toInt64)), .second, .val (.long ((p5 &&& (255 : Int32)).toInt64)), .second, .val (.long ((p6 &&& (255 : Int32)).toInt64)), .second, .val (.long ((((tv.toInt64) * (66049 : Int64)) + (((p3 &&& (255 : Int32)).toInt64) * (257 : Int64))) + ((p4 &&& (255 : Int32)).toInt64))), .second] []))
        refine ownVia (fun _ k => XS.iconst X39.here hx rfl (hb hby at_215) k) ?_
        show ownFin _ _ _ _ _ (T39.setTop (mkF m 216 #[.val (.int p1), .val (.int p2), .val (.int p3), .val (.int p4), .val (.int p5), .val (.int p6), .val (.int tv), .val (.int nv), .val (.ref b1), .val (.ref b2), .val (.long (tv.toInt64)), .second, .val (.long ((p3 &&& (255 : Int32)).toInt64)), .second, .val (.long ((p4 &&& (255 : Int32)).toInt64)), .second, .val (.long ((p5 &&& (255 : Int32)).toInt64)), .second, .val (.long ((p6 &&& (255 : Int32)).toInt64)), .second, .val (.long ((((tv.toInt64) * (66049 : Int64)) + (((p3 &&& (255 : Int32)).toInt64) * (257 : Int64))) + ((p4 &&& (255 : Int32)).toInt64))), .second] [(.int (1 : Int32))]))
        refine ownVia (fun _ k => XS.goto X39.here hx rfl (pc0 := 216) (pc' := 220) rfl (hb hby at_216) (by decide) (by decide) k) ?_
        show ownFin _ _ _ _ _ (T39.setTop (mkF m 220 #[.val (.int p1), .val (.int p2), .val (.int p3), .val (.int p4), .val (.int p5), .val (.int p6), .val (.int tv), .val (.int nv), .val (.ref b1), .val (.ref b2), .val (.long (tv.toInt64)), .second, .val (.long ((p3 &&& (255 : Int32)).toInt64)), .second, .val (.long ((p4 &&& (255 : Int32)).toInt64)), .second, .val (.long ((p5 &&& (255 : Int32)).toInt64)), .second, .val (.long ((p6 &&& (255 : Int32)).toInt64)), .second, .val (.long ((((tv.toInt64) * (66049 : Int64)) + (((p3 &&& (255 : Int32)).toInt64) * (257 : Int64))) + ((p4 &&& (255 : Int32)).toInt64))), .second] [(.int (1 : Int32))]))
        refine ownRetZ X39 hx hlk hret (hb hby at_220) (by decide) (by decide) (Or.inr rfl) ?_
        show (Q_own_law Z p1 p2 p3 p4 p5 p6 h0 n0 ) (some (.int (1 : Int32))) T39.heap _
        rw [e39]
        exact ⟨rfl, N39⟩
      case neg =>
        have hc38I : ¬ (M : Int) = 2 := fun q => hc38 ((own_eqi hM (by decide)).mpr q)
        refine ownVia (fun _ k => XS.icmpYes X33.here hx rfl (pc0 := 114) (pc' := 138) rfl (hb hby at_114) rfl (feq hc38).2 (by decide) (by decide) k) ?_
        show ownFin _ _ _ _ _ (T33.setTop (mkF m 138 #[.val (.int p1), .val (.int p2), .val (.int p3), .val (.int p4), .val (.int p5), .val (.int p6), .val (.int tv), .val (.int nv), .val (.ref b1), .val (.ref b2), .val (.long (tv.toInt64)), .second, .val (.long ((p3 &&& (255 : Int32)).toInt64)), .second, .val (.long ((p4 &&& (255 : Int32)).toInt64)), .second, .val (.long ((p5 &&& (255 : Int32)).toInt64)), .second, .val (.long ((p6 &&& (255 : Int32)).toInt64)), .second, .unset, .unset] []))
        refine ownVia (fun _ k => XS.iload X33.here hx rfl (hb hby at_138) rfl k) ?_
        show ownFin _ _ _ _ _ (T33.setTop (mkF m 140 #[.val (.int p1), .val (.int p2), .val (.int p3), .val (.int p4), .val (.int p5), .val (.int p6), .val (.int tv), .val (.int nv), .val (.ref b1), .val (.ref b2), .val (.long (tv.toInt64)), .second, .val (.long ((p3 &&& (255 : Int32)).toInt64)), .second, .val (.long ((p4 &&& (255 : Int32)).toInt64)), .second, .val (.long ((p5 &&& (255 : Int32)).toInt64)), .second, .val (.long ((p6 &&& (255 : Int32)).toInt64)), .second, .unset, .unset] [(.int nv)]))
        refine ownVia (fun _ k => XS.iconst X33.here hx rfl (hb hby at_140) k) ?_
        show ownFin _ _ _ _ _ (T33.setTop (mkF m 141 #[.val (.int p1), .val (.int p2), .val (.int p3), .val (.int p4), .val (.int p5), .val (.int p6), .val (.int tv), .val (.int nv), .val (.ref b1), .val (.ref b2), .val (.long (tv.toInt64)), .second, .val (.long ((p3 &&& (255 : Int32)).toInt64)), .second, .val (.long ((p4 &&& (255 : Int32)).toInt64)), .second, .val (.long ((p5 &&& (255 : Int32)).toInt64)), .second, .val (.long ((p6 &&& (255 : Int32)).toInt64)), .second, .unset, .unset] [(.int (3 : Int32)), (.int nv)]))
        by_cases hc40 : nv = (3 : Int32)
        case pos =>
          have hc40I : (M : Int) = 3 := (own_eqi hM (by decide)).mp hc40
          refine ownVia (fun _ k => XS.icmpNo X33.here hx rfl (hb hby at_141) rfl (teq hc40).2 k) ?_
          show ownFin _ _ _ _ _ (T33.setTop (mkF m 144 #[.val (.int p1), .val (.int p2), .val (.int p3), .val (.int p4), .val (.int p5), .val (.int p6), .val (.int tv), .val (.int nv), .val (.ref b1), .val (.ref b2), .val (.long (tv.toInt64)), .second, .val (.long ((p3 &&& (255 : Int32)).toInt64)), .second, .val (.long ((p4 &&& (255 : Int32)).toInt64)), .second, .val (.long ((p5 &&& (255 : Int32)).toInt64)), .second, .val (.long ((p6 &&& (255 : Int32)).toInt64)), .second, .unset, .unset] []))
          refine ownVia (fun _ k => XS.lload X33.here hx rfl (hb hby at_144) rfl k) ?_
          show ownFin _ _ _ _ _ (T33.setTop (mkF m 146 #[.val (.int p1), .val (.int p2), .val (.int p3), .val (.int p4), .val (.int p5), .val (.int p6), .val (.int tv), .val (.int nv), .val (.ref b1), .val (.ref b2), .val (.long (tv.toInt64)), .second, .val (.long ((p3 &&& (255 : Int32)).toInt64)), .second, .val (.long ((p4 &&& (255 : Int32)).toInt64)), .second, .val (.long ((p5 &&& (255 : Int32)).toInt64)), .second, .val (.long ((p6 &&& (255 : Int32)).toInt64)), .second, .unset, .unset] [(.long (tv.toInt64))]))
          refine ownVia (fun _ k => X33.ldc2Long hx hown (mvT hZ (hw _ (List.mem_of_getElem? (i := 30) rfl))) (g := (mkF m 146 #[.val (.int p1), .val (.int p2), .val (.int p3), .val (.int p4), .val (.int p5), .val (.int p6), .val (.int tv), .val (.int nv), .val (.ref b1), .val (.ref b2), .val (.long (tv.toInt64)), .second, .val (.long ((p3 &&& (255 : Int32)).toInt64)), .second, .val (.long ((p4 &&& (255 : Int32)).toInt64)), .second, .val (.long ((p5 &&& (255 : Int32)).toInt64)), .second, .val (.long ((p6 &&& (255 : Int32)).toInt64)), .second, .unset, .unset] [(.long (tv.toInt64))])) rfl (hb hby at_146) _ k) ?_
          show ownFin _ _ _ _ _ (T33.setTop (mkF m 149 #[.val (.int p1), .val (.int p2), .val (.int p3), .val (.int p4), .val (.int p5), .val (.int p6), .val (.int tv), .val (.int nv), .val (.ref b1), .val (.ref b2), .val (.long (tv.toInt64)), .second, .val (.long ((p3 &&& (255 : Int32)).toInt64)), .second, .val (.long ((p4 &&& (255 : Int32)).toInt64)), .second, .val (.long ((p5 &&& (255 : Int32)).toInt64)), .second, .val (.long ((p6 &&& (255 : Int32)).toInt64)), .second, .unset, .unset] [(.long (16974593 : Int64)), (.long (tv.toInt64))]))
          refine ownVia (fun _ k => XS.lmul X33.here hx rfl (hb hby at_149) rfl k) ?_
          show ownFin _ _ _ _ _ (T33.setTop (mkF m 150 #[.val (.int p1), .val (.int p2), .val (.int p3), .val (.int p4), .val (.int p5), .val (.int p6), .val (.int tv), .val (.int nv), .val (.ref b1), .val (.ref b2), .val (.long (tv.toInt64)), .second, .val (.long ((p3 &&& (255 : Int32)).toInt64)), .second, .val (.long ((p4 &&& (255 : Int32)).toInt64)), .second, .val (.long ((p5 &&& (255 : Int32)).toInt64)), .second, .val (.long ((p6 &&& (255 : Int32)).toInt64)), .second, .unset, .unset] [(.long ((tv.toInt64) * (16974593 : Int64)))]))
          refine ownVia (fun _ k => XS.lload X33.here hx rfl (hb hby at_150) rfl k) ?_
          show ownFin _ _ _ _ _ (T33.setTop (mkF m 152 #[.val (.int p1), .val (.int p2), .val (.int p3), .val (.int p4), .val (.int p5), .val (.int p6), .val (.int tv), .val (.int nv), .val (.ref b1), .val (.ref b2), .val (.long (tv.toInt64)), .second, .val (.long ((p3 &&& (255 : Int32)).toInt64)), .second, .val (.long ((p4 &&& (255 : Int32)).toInt64)), .second, .val (.long ((p5 &&& (255 : Int32)).toInt64)), .second, .val (.long ((p6 &&& (255 : Int32)).toInt64)), .second, .unset, .unset] [(.long ((p3 &&& (255 : Int32)).toInt64)), (.long ((tv.toInt64) * (16974593 : Int64)))]))
          refine ownVia (fun _ k => X33.ldc2Long hx hown (mvT hZ (hw _ (List.mem_of_getElem? (i := 31) rfl))) (g := (mkF m 152 #[.val (.int p1), .val (.int p2), .val (.int p3), .val (.int p4), .val (.int p5), .val (.int p6), .val (.int tv), .val (.int nv), .val (.ref b1), .val (.ref b2), .val (.long (tv.toInt64)), .second, .val (.long ((p3 &&& (255 : Int32)).toInt64)), .second, .val (.long ((p4 &&& (255 : Int32)).toInt64)), .second, .val (.long ((p5 &&& (255 : Int32)).toInt64)), .second, .val (.long ((p6 &&& (255 : Int32)).toInt64)), .second, .unset, .unset] [(.long ((p3 &&& (255 : Int32)).toInt64)), (.long ((tv.toInt64) * (16974593 : Int64)))])) rfl (hb hby at_152) _ k) ?_
          show ownFin _ _ _ _ _ (T33.setTop (mkF m 155 #[.val (.int p1), .val (.int p2), .val (.int p3), .val (.int p4), .val (.int p5), .val (.int p6), .val (.int tv), .val (.int nv), .val (.ref b1), .val (.ref b2), .val (.long (tv.toInt64)), .second, .val (.long ((p3 &&& (255 : Int32)).toInt64)), .second, .val (.long ((p4 &&& (255 : Int32)).toInt64)), .second, .val (.long ((p5 &&& (255 : Int32)).toInt64)), .second, .val (.long ((p6 &&& (255 : Int32)).toInt64)), .second, .unset, .unset] [(.long (66049 : Int64)), (.long ((p3 &&& (255 : Int32)).toInt64)), (.long ((tv.toInt64) * (16974593 : Int64)))]))
          refine ownVia (fun _ k => XS.lmul X33.here hx rfl (hb hby at_155) rfl k) ?_
          show ownFin _ _ _ _ _ (T33.setTop (mkF m 156 #[.val (.int p1), .val (.int p2), .val (.int p3), .val (.int p4), .val (.int p5), .val (.int p6), .val (.int tv), .val (.int nv), .val (.ref b1), .val (.ref b2), .val (.long (tv.toInt64)), .second, .val (.long ((p3 &&& (255 : Int32)).toInt64)), .second, .val (.long ((p4 &&& (255 : Int32)).toInt64)), .second, .val (.long ((p5 &&& (255 : Int32)).toInt64)), .second, .val (.long ((p6 &&& (255 : Int32)).toInt64)), .second, .unset, .unset] [(.long (((p3 &&& (255 : Int32)).toInt64) * (66049 : Int64))), (.long ((tv.toInt64) * (16974593 : Int64)))]))
          refine ownVia (fun _ k => XS.ladd X33.here hx rfl (hb hby at_156) rfl k) ?_
          show ownFin _ _ _ _ _ (T33.setTop (mkF m 157 #[.val (.int p1), .val (.int p2), .val (.int p3), .val (.int p4), .val (.int p5), .val (.int p6), .val (.int tv), .val (.int nv), .val (.ref b1), .val (.ref b2), .val (.long (tv.toInt64)), .second, .val (.long ((p3 &&& (255 : Int32)).toInt64)), .second, .val (.long ((p4 &&& (255 : Int32)).toInt64)), .second, .val (.long ((p5 &&& (255 : Int32)).toInt64)), .second, .val (.long ((p6 &&& (255 : Int32)).toInt64)), .second, .unset, .unset] [(.long (((tv.toInt64) * (16974593 : Int64)) + (((p3 &&& (255 : Int32)).toInt64) * (66049 : Int64))))]))
          refine ownVia (fun _ k => XS.lload X33.here hx rfl (hb hby at_157) rfl k) ?_
          show ownFin _ _ _ _ _ (T33.setTop (mkF m 159 #[.val (.int p1), .val (.int p2), .val (.int p3), .val (.int p4), .val (.int p5), .val (.int p6), .val (.int tv), .val (.int nv), .val (.ref b1), .val (.ref b2), .val (.long (tv.toInt64)), .second, .val (.long ((p3 &&& (255 : Int32)).toInt64)), .second, .val (.long ((p4 &&& (255 : Int32)).toInt64)), .second, .val (.long ((p5 &&& (255 : Int32)).toInt64)), .second, .val (.long ((p6 &&& (255 : Int32)).toInt64)), .second, .unset, .unset] [(.long ((p4 &&& (255 : Int32)).toInt64)), (.long (((tv.toInt64) * (16974593 : Int64)) + (((p3 &&& (255 : Int32)).toInt64) * (66049 : Int64))))]))
          refine ownVia (fun _ k => X33.ldc2Long hx hown (mvT hZ (hw _ (List.mem_of_getElem? (i := 32) rfl))) (g := (mkF m 159 #[.val (.int p1), .val (.int p2), .val (.int p3), .val (.int p4), .val (.int p5), .val (.int p6), .val (.int tv), .val (.int nv), .val (.ref b1), .val (.ref b2), .val (.long (tv.toInt64)), .second, .val (.long ((p3 &&& (255 : Int32)).toInt64)), .second, .val (.long ((p4 &&& (255 : Int32)).toInt64)), .second, .val (.long ((p5 &&& (255 : Int32)).toInt64)), .second, .val (.long ((p6 &&& (255 : Int32)).toInt64)), .second, .unset, .unset] [(.long ((p4 &&& (255 : Int32)).toInt64)), (.long (((tv.toInt64) * (16974593 : Int64)) + (((p3 &&& (255 : Int32)).toInt64) * (66049 : Int64))))])) rfl (hb hby at_159) _ k) ?_
          show ownFin _ _ _ _ _ (T33.setTop (mkF m 162 #[.val (.int p1), .val (.int p2), .val (.int p3), .val (.int p4), .val (.int p5), .val (.int p6), .val (.int tv), .val (.int nv), .val (.ref b1), .val (.ref b2), .val (.long (tv.toInt64)), .second, .val (.long ((p3 &&& (255 : Int32)).toInt64)), .second, .val (.long ((p4 &&& (255 : Int32)).toInt64)), .second, .val (.long ((p5 &&& (255 : Int32)).toInt64)), .second, .val (.long ((p6 &&& (255 : Int32)).toInt64)), .second, .unset, .unset] [(.long (257 : Int64)), (.long ((p4 &&& (255 : Int32)).toInt64)), (.long (((tv.toInt64) * (16974593 : Int64)) + (((p3 &&& (255 : Int32)).toInt64) * (66049 : Int64))))]))
          refine ownVia (fun _ k => XS.lmul X33.here hx rfl (hb hby at_162) rfl k) ?_
          show ownFin _ _ _ _ _ (T33.setTop (mkF m 163 #[.val (.int p1), .val (.int p2), .val (.int p3), .val (.int p4), .val (.int p5), .val (.int p6), .val (.int tv), .val (.int nv), .val (.ref b1), .val (.ref b2), .val (.long (tv.toInt64)), .second, .val (.long ((p3 &&& (255 : Int32)).toInt64)), .second, .val (.long ((p4 &&& (255 : Int32)).toInt64)), .second, .val (.long ((p5 &&& (255 : Int32)).toInt64)), .second, .val (.long ((p6 &&& (255 : Int32)).toInt64)), .second, .unset, .unset] [(.long (((p4 &&& (255 : Int32)).toInt64) * (257 : Int64))), (.long (((tv.toInt64) * (16974593 : Int64)) + (((p3 &&& (255 : Int32)).toInt64) * (66049 : Int64))))]))
          refine ownVia (fun _ k => XS.ladd X33.here hx rfl (hb hby at_163) rfl k) ?_
          show ownFin _ _ _ _ _ (T33.setTop (mkF m 164 #[.val (.int p1), .val (.int p2), .val (.int p3), .val (.int p4), .val (.int p5), .val (.int p6), .val (.int tv), .val (.int nv), .val (.ref b1), .val (.ref b2), .val (.long (tv.toInt64)), .second, .val (.long ((p3 &&& (255 : Int32)).toInt64)), .second, .val (.long ((p4 &&& (255 : Int32)).toInt64)), .second, .val (.long ((p5 &&& (255 : Int32)).toInt64)), .second, .val (.long ((p6 &&& (255 : Int32)).toInt64)), .second, .unset, .unset] [(.long ((((tv.toInt64) * (16974593 : Int64)) + (((p3 &&& (255 : Int32)).toInt64) * (66049 : Int64))) + (((p4 &&& (255 : Int32)).toInt64) * (257 : Int64))))]))
          refine ownVia (fun _ k => XS.lload X33.here hx rfl (hb hby at_164) rfl k) ?_
          show ownFin _ _ _ _ _ (T33.setTop (mkF m 166 #[.val (.int p1), .val (.int p2), .val (.int p3), .val (.int p4), .val (.int p5), .val (.int p6), .val (.int tv), .val (.int nv), .val (.ref b1), .val (.ref b2), .val (.long (tv.toInt64)), .second, .val (.long ((p3 &&& (255 : Int32)).toInt64)), .second, .val (.long ((p4 &&& (255 : Int32)).toInt64)), .second, .val (.long ((p5 &&& (255 : Int32)).toInt64)), .second, .val (.long ((p6 &&& (255 : Int32)).toInt64)), .second, .unset, .unset] [(.long ((p5 &&& (255 : Int32)).toInt64)), (.long ((((tv.toInt64) * (16974593 : Int64)) + (((p3 &&& (255 : Int32)).toInt64) * (66049 : Int64))) + (((p4 &&& (255 : Int32)).toInt64) * (257 : Int64))))]))
          refine ownVia (fun _ k => XS.ladd X33.here hx rfl (hb hby at_166) rfl k) ?_
          show ownFin _ _ _ _ _ (T33.setTop (mkF m 167 #[.val (.int p1), .val (.int p2), .val (.int p3), .val (.int p4), .val (.int p5), .val (.int p6), .val (.int tv), .val (.int nv), .val (.ref b1), .val (.ref b2), .val (.long (tv.toInt64)), .second, .val (.long ((p3 &&& (255 : Int32)).toInt64)), .second, .val (.long ((p4 &&& (255 : Int32)).toInt64)), .second, .val (.long ((p5 &&& (255 : Int32)).toInt64)), .second, .val (.long ((p6 &&& (255 : Int32)).toInt64)), .second, .unset, .unset] [(.long (((((tv.toInt64) * (16974593 : Int64)) + (((p3 &&& (255 : Int32)).toInt64) * (66049 : Int64))) + (((p4 &&& (255 : Int32)).toInt64) * (257 : Int64))) + ((p5 &&& (255 : Int32)).toInt64)))]))
          refine ownVia (fun _ k => XS.lstore X33.here hx rfl (hb hby at_167) rfl (l' := #[.val (.int p1), .val (.int p2), .val (.int p3), .val (.int p4), .val (.int p5), .val (.int p6), .val (.int tv), .val (.int nv), .val (.ref b1), .val (.ref b2), .val (.long (tv.toInt64)), .second, .val (.long ((p3 &&& (255 : Int32)).toInt64)), .second, .val (.long ((p4 &&& (255 : Int32)).toInt64)), .second, .val (.long ((p5 &&& (255 : Int32)).toInt64)), .second, .val (.long ((p6 &&& (255 : Int32)).toInt64)), .second, .val (.long (((((tv.toInt64) * (16974593 : Int64)) + (((p3 &&& (255 : Int32)).toInt64) * (66049 : Int64))) + (((p4 &&& (255 : Int32)).toInt64) * (257 : Int64))) + ((p5 &&& (255 : Int32)).toInt64))), .second]) rfl k) ?_
          show ownFin _ _ _ _ _ (T33.setTop (mkF m 169 #[.val (.int p1), .val (.int p2), .val (.int p3), .val (.int p4), .val (.int p5), .val (.int p6), .val (.int tv), .val (.int nv), .val (.ref b1), .val (.ref b2), .val (.long (tv.toInt64)), .second, .val (.long ((p3 &&& (255 : Int32)).toInt64)), .second, .val (.long ((p4 &&& (255 : Int32)).toInt64)), .second, .val (.long ((p5 &&& (255 : Int32)).toInt64)), .second, .val (.long ((p6 &&& (255 : Int32)).toInt64)), .second, .val (.long (((((tv.toInt64) * (16974593 : Int64)) + (((p3 &&& (255 : Int32)).toInt64) * (66049 : Int64))) + (((p4 &&& (255 : Int32)).toInt64) * (257 : Int64))) + ((p5 &&& (255 : Int32)).toInt64))), .second] []))
          refine ownVia (fun _ k => XS.goto X33.here hx rfl (pc0 := 169) (pc' := 204) rfl (hb hby at_169) (by decide) (by decide) k) ?_
          show ownFin _ _ _ _ _ (T33.setTop (mkF m 204 #[.val (.int p1), .val (.int p2), .val (.int p3), .val (.int p4), .val (.int p5), .val (.int p6), .val (.int tv), .val (.int nv), .val (.ref b1), .val (.ref b2), .val (.long (tv.toInt64)), .second, .val (.long ((p3 &&& (255 : Int32)).toInt64)), .second, .val (.long ((p4 &&& (255 : Int32)).toInt64)), .second, .val (.long ((p5 &&& (255 : Int32)).toInt64)), .second, .val (.long ((p6 &&& (255 : Int32)).toInt64)), .second, .val (.long (((((tv.toInt64) * (16974593 : Int64)) + (((p3 &&& (255 : Int32)).toInt64) * (66049 : Int64))) + (((p4 &&& (255 : Int32)).toInt64) * (257 : Int64))) + ((p5 &&& (255 : Int32)).toInt64))), .second] []))
          refine ownVia (fun _ k => XS.aload X33.here hx rfl (hb hby at_204) rfl rfl k) ?_
          show ownFin _ _ _ _ _ (T33.setTop (mkF m 206 #[.val (.int p1), .val (.int p2), .val (.int p3), .val (.int p4), .val (.int p5), .val (.int p6), .val (.int tv), .val (.int nv), .val (.ref b1), .val (.ref b2), .val (.long (tv.toInt64)), .second, .val (.long ((p3 &&& (255 : Int32)).toInt64)), .second, .val (.long ((p4 &&& (255 : Int32)).toInt64)), .second, .val (.long ((p5 &&& (255 : Int32)).toInt64)), .second, .val (.long ((p6 &&& (255 : Int32)).toInt64)), .second, .val (.long (((((tv.toInt64) * (16974593 : Int64)) + (((p3 &&& (255 : Int32)).toInt64) * (66049 : Int64))) + (((p4 &&& (255 : Int32)).toInt64) * (257 : Int64))) + ((p5 &&& (255 : Int32)).toInt64))), .second] [(.ref b2)]))
          refine ownCallV X33 hx hZ hown (hw _ (List.mem_of_getElem? (i := 33) rfl)) (hw _ (List.mem_of_getElem? (i := 34) rfl)) (hw _ (List.mem_of_getElem? (i := 36) rfl)) (hw _ (List.mem_of_getElem? (i := 36) rfl)) (hw _ (List.mem_of_getElem? (i := 35) rfl)) (hw _ (List.mem_of_getElem? (i := 9) rfl)) (hw _ (List.mem_of_getElem? (i := 37) rfl)) (by decide) (rfl : T33.heap = T33.heap) E_b2 (own_hc l Z a0 hw b2 T33.heap n0 tv b3 k_b1 nv (own_bl p3 p4 p5 p6 M) Z0 F_b2_type F_b2_value A_b3 (by rw [own_bllen p3 p4 p5 p6 hM8]; exact hM)) (by rw [hml]; rfl) [] [] (lenOf own_pd2 rfl) rfl rfl 0 rfl (hb hby at_206) (by decide) (by decide) (by decide) (by decide) ?_
          intro v41 T41 L41 X41 hq41
          obtain ⟨rfl, N41q, eq41⟩ := hq41
          have N41 := Fr.app N33 N41q
          have e41 : T41.heap = T33.heap := eq41
          show ownFin _ _ _ _ _ (T41.setTop (mkF m 209 #[.val (.int p1), .val (.int p2), .val (.int p3), .val (.int p4), .val (.int p5), .val (.int p6), .val (.int tv), .val (.int nv), .val (.ref b1), .val (.ref b2), .val (.long (tv.toInt64)), .second, .val (.long ((p3 &&& (255 : Int32)).toInt64)), .second, .val (.long ((p4 &&& (255 : Int32)).toInt64)), .second, .val (.long ((p5 &&& (255 : Int32)).toInt64)), .second, .val (.long ((p6 &&& (255 : Int32)).toInt64)), .second, .val (.long (((((tv.toInt64) * (16974593 : Int64)) + (((p3 &&& (255 : Int32)).toInt64) * (66049 : Int64))) + (((p4 &&& (255 : Int32)).toInt64) * (257 : Int64))) + ((p5 &&& (255 : Int32)).toInt64))), .second] [(.int (own_hash tv (own_bl p3 p4 p5 p6 M)))]))
          refine ownVia (fun _ k => XS.lload X41.here hx rfl (hb hby at_209) rfl k) ?_
          show ownFin _ _ _ _ _ (T41.setTop (mkF m 211 #[.val (.int p1), .val (.int p2), .val (.int p3), .val (.int p4), .val (.int p5), .val (.int p6), .val (.int tv), .val (.int nv), .val (.ref b1), .val (.ref b2), .val (.long (tv.toInt64)), .second, .val (.long ((p3 &&& (255 : Int32)).toInt64)), .second, .val (.long ((p4 &&& (255 : Int32)).toInt64)), .second, .val (.long ((p5 &&& (255 : Int32)).toInt64)), .second, .val (.long ((p6 &&& (255 : Int32)).toInt64)), .second, .val (.long (((((tv.toInt64) * (16974593 : Int64)) + (((p3 &&& (255 : Int32)).toInt64) * (66049 : Int64))) + (((p4 &&& (255 : Int32)).toInt64) * (257 : Int64))) + ((p5 &&& (255 : Int32)).toInt64))), .second] [(.long (((((tv.toInt64) * (16974593 : Int64)) + (((p3 &&& (255 : Int32)).toInt64) * (66049 : Int64))) + (((p4 &&& (255 : Int32)).toInt64) * (257 : Int64))) + ((p5 &&& (255 : Int32)).toInt64))), (.int (own_hash tv (own_bl p3 p4 p5 p6 M)))]))
          refine ownVia (fun _ k => XS.l2i X41.here hx rfl (hb hby at_211) rfl k) ?_
          show ownFin _ _ _ _ _ (T41.setTop (mkF m 212 #[.val (.int p1), .val (.int p2), .val (.int p3), .val (.int p4), .val (.int p5), .val (.int p6), .val (.int tv), .val (.int nv), .val (.ref b1), .val (.ref b2), .val (.long (tv.toInt64)), .second, .val (.long ((p3 &&& (255 : Int32)).toInt64)), .second, .val (.long ((p4 &&& (255 : Int32)).toInt64)), .second, .val (.long ((p5 &&& (255 : Int32)).toInt64)), .second, .val (.long ((p6 &&& (255 : Int32)).toInt64)), .second, .val (.long (((((tv.toInt64) * (16974593 : Int64)) + (((p3 &&& (255 : Int32)).toInt64) * (66049 : Int64))) + (((p4 &&& (255 : Int32)).toInt64) * (257 : Int64))) + ((p5 &&& (255 : Int32)).toInt64))), .second] [(.int ((((((tv.toInt64) * (16974593 : Int64)) + (((p3 &&& (255 : Int32)).toInt64) * (66049 : Int64))) + (((p4 &&& (255 : Int32)).toInt64) * (257 : Int64))) + ((p5 &&& (255 : Int32)).toInt64)).toInt32)), (.int (own_hash tv (own_bl p3 p4 p5 p6 M)))]))
          have hMN : M = 3 := by omega
          refine ownVia (fun _ k => XS.icmpNo X41.here hx rfl (hb hby at_212) rfl (teq (by rw [hMN]; exact own_h3 tv p3 p4 p5 p6)).2 k) ?_
          show ownFin _ _ _ _ _ (T41.setTop (mkF m 215 #[.val (.int p1), .val (.int p2), .val (.int p3), .val (.int p4), .val (.int p5), .val (.int p6), .val (.int tv), .val (.int nv), .val (.ref b1), .val (.ref b2), .val (.long (tv.toInt64)), .second, .val (.long ((p3 &&& (255 : Int32)).toInt64)), .second, .val (.long ((p4 &&& (255 : Int32)).toInt64)), .second, .val (.long ((p5 &&& (255 : Int32)).toInt64)), .second, .val (.long ((p6 &&& (255 : Int32)).toInt64)), .second, .val (.long (((((tv.toInt64) * (16974593 : Int64)) + (((p3 &&& (255 : Int32)).toInt64) * (66049 : Int64))) + (((p4 &&& (255 : Int32)).toInt64) * (257 : Int64))) + ((p5 &&& (255 : Int32)).toInt64))), .second] []))
          refine ownVia (fun _ k => XS.iconst X41.here hx rfl (hb hby at_215) k) ?_
          show ownFin _ _ _ _ _ (T41.setTop (mkF m 216 #[.val (.int p1), .val (.int p2), .val (.int p3), .val (.int p4), .val (.int p5), .val (.int p6), .val (.int tv), .val (.int nv), .val (.ref b1), .val (.ref b2), .val (.long (tv.toInt64)), .second, .val (.long ((p3 &&& (255 : Int32)).toInt64)), .second, .val (.long ((p4 &&& (255 : Int32)).toInt64)), .second, .val (.long ((p5 &&& (255 : Int32)).toInt64)), .second, .val (.long ((p6 &&& (255 : Int32)).toInt64)), .second, .val (.long (((((tv.toInt64) * (16974593 : Int64)) + (((p3 &&& (255 : Int32)).toInt64) * (66049 : Int64))) + (((p4 &&& (255 : Int32)).toInt64) * (257 : Int64))) + ((p5 &&& (255 : Int32)).toInt64))), .second] [(.int (1 : Int32))]))
          refine ownVia (fun _ k => XS.goto X41.here hx rfl (pc0 := 216) (pc' := 220) rfl (hb hby at_216) (by decide) (by decide) k) ?_
          show ownFin _ _ _ _ _ (T41.setTop (mkF m 220 #[.val (.int p1), .val (.int p2), .val (.int p3), .val (.int p4), .val (.int p5), .val (.int p6), .val (.int tv), .val (.int nv), .val (.ref b1), .val (.ref b2), .val (.long (tv.toInt64)), .second, .val (.long ((p3 &&& (255 : Int32)).toInt64)), .second, .val (.long ((p4 &&& (255 : Int32)).toInt64)), .second, .val (.long ((p5 &&& (255 : Int32)).toInt64)), .second, .val (.long ((p6 &&& (255 : Int32)).toInt64)), .second, .val (.long (((((tv.toInt64) * (16974593 : Int64)) + (((p3 &&& (255 : Int32)).toInt64) * (66049 : Int64))) + (((p4 &&& (255 : Int32)).toInt64) * (257 : Int64))) + ((p5 &&& (255 : Int32)).toInt64))), .second] [(.int (1 : Int32))]))
          refine ownRetZ X41 hx hlk hret (hb hby at_220) (by decide) (by decide) (Or.inr rfl) ?_
          show (Q_own_law Z p1 p2 p3 p4 p5 p6 h0 n0 ) (some (.int (1 : Int32))) T41.heap _
          rw [e41]
          exact ⟨rfl, N41⟩
        case neg =>
          have hc40I : ¬ (M : Int) = 3 := fun q => hc40 ((own_eqi hM (by decide)).mpr q)
          refine ownVia (fun _ k => XS.icmpYes X33.here hx rfl (pc0 := 141) (pc' := 172) rfl (hb hby at_141) rfl (feq hc40).2 (by decide) (by decide) k) ?_
          show ownFin _ _ _ _ _ (T33.setTop (mkF m 172 #[.val (.int p1), .val (.int p2), .val (.int p3), .val (.int p4), .val (.int p5), .val (.int p6), .val (.int tv), .val (.int nv), .val (.ref b1), .val (.ref b2), .val (.long (tv.toInt64)), .second, .val (.long ((p3 &&& (255 : Int32)).toInt64)), .second, .val (.long ((p4 &&& (255 : Int32)).toInt64)), .second, .val (.long ((p5 &&& (255 : Int32)).toInt64)), .second, .val (.long ((p6 &&& (255 : Int32)).toInt64)), .second, .unset, .unset] []))
          refine ownVia (fun _ k => XS.lload X33.here hx rfl (hb hby at_172) rfl k) ?_
          show ownFin _ _ _ _ _ (T33.setTop (mkF m 174 #[.val (.int p1), .val (.int p2), .val (.int p3), .val (.int p4), .val (.int p5), .val (.int p6), .val (.int tv), .val (.int nv), .val (.ref b1), .val (.ref b2), .val (.long (tv.toInt64)), .second, .val (.long ((p3 &&& (255 : Int32)).toInt64)), .second, .val (.long ((p4 &&& (255 : Int32)).toInt64)), .second, .val (.long ((p5 &&& (255 : Int32)).toInt64)), .second, .val (.long ((p6 &&& (255 : Int32)).toInt64)), .second, .unset, .unset] [(.long (tv.toInt64))]))
          refine ownVia (fun _ k => X33.ldc2Long hx hown (mvT hZ (hw _ (List.mem_of_getElem? (i := 38) rfl))) (g := (mkF m 174 #[.val (.int p1), .val (.int p2), .val (.int p3), .val (.int p4), .val (.int p5), .val (.int p6), .val (.int tv), .val (.int nv), .val (.ref b1), .val (.ref b2), .val (.long (tv.toInt64)), .second, .val (.long ((p3 &&& (255 : Int32)).toInt64)), .second, .val (.long ((p4 &&& (255 : Int32)).toInt64)), .second, .val (.long ((p5 &&& (255 : Int32)).toInt64)), .second, .val (.long ((p6 &&& (255 : Int32)).toInt64)), .second, .unset, .unset] [(.long (tv.toInt64))])) rfl (hb hby at_174) _ k) ?_
          show ownFin _ _ _ _ _ (T33.setTop (mkF m 177 #[.val (.int p1), .val (.int p2), .val (.int p3), .val (.int p4), .val (.int p5), .val (.int p6), .val (.int tv), .val (.int nv), .val (.ref b1), .val (.ref b2), .val (.long (tv.toInt64)), .second, .val (.long ((p3 &&& (255 : Int32)).toInt64)), .second, .val (.long ((p4 &&& (255 : Int32)).toInt64)), .second, .val (.long ((p5 &&& (255 : Int32)).toInt64)), .second, .val (.long ((p6 &&& (255 : Int32)).toInt64)), .second, .unset, .unset] [(.long (4362470401 : Int64)), (.long (tv.toInt64))]))
          refine ownVia (fun _ k => XS.lmul X33.here hx rfl (hb hby at_177) rfl k) ?_
          show ownFin _ _ _ _ _ (T33.setTop (mkF m 178 #[.val (.int p1), .val (.int p2), .val (.int p3), .val (.int p4), .val (.int p5), .val (.int p6), .val (.int tv), .val (.int nv), .val (.ref b1), .val (.ref b2), .val (.long (tv.toInt64)), .second, .val (.long ((p3 &&& (255 : Int32)).toInt64)), .second, .val (.long ((p4 &&& (255 : Int32)).toInt64)), .second, .val (.long ((p5 &&& (255 : Int32)).toInt64)), .second, .val (.long ((p6 &&& (255 : Int32)).toInt64)), .second, .unset, .unset] [(.long ((tv.toInt64) * (4362470401 : Int64)))]))
          refine ownVia (fun _ k => XS.lload X33.here hx rfl (hb hby at_178) rfl k) ?_
          show ownFin _ _ _ _ _ (T33.setTop (mkF m 180 #[.val (.int p1), .val (.int p2), .val (.int p3), .val (.int p4), .val (.int p5), .val (.int p6), .val (.int tv), .val (.int nv), .val (.ref b1), .val (.ref b2), .val (.long (tv.toInt64)), .second, .val (.long ((p3 &&& (255 : Int32)).toInt64)), .second, .val (.long ((p4 &&& (255 : Int32)).toInt64)), .second, .val (.long ((p5 &&& (255 : Int32)).toInt64)), .second, .val (.long ((p6 &&& (255 : Int32)).toInt64)), .second, .unset, .unset] [(.long ((p3 &&& (255 : Int32)).toInt64)), (.long ((tv.toInt64) * (4362470401 : Int64)))]))
          refine ownVia (fun _ k => X33.ldc2Long hx hown (mvT hZ (hw _ (List.mem_of_getElem? (i := 30) rfl))) (g := (mkF m 180 #[.val (.int p1), .val (.int p2), .val (.int p3), .val (.int p4), .val (.int p5), .val (.int p6), .val (.int tv), .val (.int nv), .val (.ref b1), .val (.ref b2), .val (.long (tv.toInt64)), .second, .val (.long ((p3 &&& (255 : Int32)).toInt64)), .second, .val (.long ((p4 &&& (255 : Int32)).toInt64)), .second, .val (.long ((p5 &&& (255 : Int32)).toInt64)), .second, .val (.long ((p6 &&& (255 : Int32)).toInt64)), .second, .unset, .unset] [(.long ((p3 &&& (255 : Int32)).toInt64)), (.long ((tv.toInt64) * (4362470401 : Int64)))])) rfl (hb hby at_180) _ k) ?_
          show ownFin _ _ _ _ _ (T33.setTop (mkF m 183 #[.val (.int p1), .val (.int p2), .val (.int p3), .val (.int p4), .val (.int p5), .val (.int p6), .val (.int tv), .val (.int nv), .val (.ref b1), .val (.ref b2), .val (.long (tv.toInt64)), .second, .val (.long ((p3 &&& (255 : Int32)).toInt64)), .second, .val (.long ((p4 &&& (255 : Int32)).toInt64)), .second, .val (.long ((p5 &&& (255 : Int32)).toInt64)), .second, .val (.long ((p6 &&& (255 : Int32)).toInt64)), .second, .unset, .unset] [(.long (16974593 : Int64)), (.long ((p3 &&& (255 : Int32)).toInt64)), (.long ((tv.toInt64) * (4362470401 : Int64)))]))
          refine ownVia (fun _ k => XS.lmul X33.here hx rfl (hb hby at_183) rfl k) ?_
          show ownFin _ _ _ _ _ (T33.setTop (mkF m 184 #[.val (.int p1), .val (.int p2), .val (.int p3), .val (.int p4), .val (.int p5), .val (.int p6), .val (.int tv), .val (.int nv), .val (.ref b1), .val (.ref b2), .val (.long (tv.toInt64)), .second, .val (.long ((p3 &&& (255 : Int32)).toInt64)), .second, .val (.long ((p4 &&& (255 : Int32)).toInt64)), .second, .val (.long ((p5 &&& (255 : Int32)).toInt64)), .second, .val (.long ((p6 &&& (255 : Int32)).toInt64)), .second, .unset, .unset] [(.long (((p3 &&& (255 : Int32)).toInt64) * (16974593 : Int64))), (.long ((tv.toInt64) * (4362470401 : Int64)))]))
          refine ownVia (fun _ k => XS.ladd X33.here hx rfl (hb hby at_184) rfl k) ?_
          show ownFin _ _ _ _ _ (T33.setTop (mkF m 185 #[.val (.int p1), .val (.int p2), .val (.int p3), .val (.int p4), .val (.int p5), .val (.int p6), .val (.int tv), .val (.int nv), .val (.ref b1), .val (.ref b2), .val (.long (tv.toInt64)), .second, .val (.long ((p3 &&& (255 : Int32)).toInt64)), .second, .val (.long ((p4 &&& (255 : Int32)).toInt64)), .second, .val (.long ((p5 &&& (255 : Int32)).toInt64)), .second, .val (.long ((p6 &&& (255 : Int32)).toInt64)), .second, .unset, .unset] [(.long (((tv.toInt64) * (4362470401 : Int64)) + (((p3 &&& (255 : Int32)).toInt64) * (16974593 : Int64))))]))
          refine ownVia (fun _ k => XS.lload X33.here hx rfl (hb hby at_185) rfl k) ?_
          show ownFin _ _ _ _ _ (T33.setTop (mkF m 187 #[.val (.int p1), .val (.int p2), .val (.int p3), .val (.int p4), .val (.int p5), .val (.int p6), .val (.int tv), .val (.int nv), .val (.ref b1), .val (.ref b2), .val (.long (tv.toInt64)), .second, .val (.long ((p3 &&& (255 : Int32)).toInt64)), .second, .val (.long ((p4 &&& (255 : Int32)).toInt64)), .second, .val (.long ((p5 &&& (255 : Int32)).toInt64)), .second, .val (.long ((p6 &&& (255 : Int32)).toInt64)), .second, .unset, .unset] [(.long ((p4 &&& (255 : Int32)).toInt64)), (.long (((tv.toInt64) * (4362470401 : Int64)) + (((p3 &&& (255 : Int32)).toInt64) * (16974593 : Int64))))]))
          refine ownVia (fun _ k => X33.ldc2Long hx hown (mvT hZ (hw _ (List.mem_of_getElem? (i := 31) rfl))) (g := (mkF m 187 #[.val (.int p1), .val (.int p2), .val (.int p3), .val (.int p4), .val (.int p5), .val (.int p6), .val (.int tv), .val (.int nv), .val (.ref b1), .val (.ref b2), .val (.long (tv.toInt64)), .second, .val (.long ((p3 &&& (255 : Int32)).toInt64)), .second, .val (.long ((p4 &&& (255 : Int32)).toInt64)), .second, .val (.long ((p5 &&& (255 : Int32)).toInt64)), .second, .val (.long ((p6 &&& (255 : Int32)).toInt64)), .second, .unset, .unset] [(.long ((p4 &&& (255 : Int32)).toInt64)), (.long (((tv.toInt64) * (4362470401 : Int64)) + (((p3 &&& (255 : Int32)).toInt64) * (16974593 : Int64))))])) rfl (hb hby at_187) _ k) ?_
          show ownFin _ _ _ _ _ (T33.setTop (mkF m 190 #[.val (.int p1), .val (.int p2), .val (.int p3), .val (.int p4), .val (.int p5), .val (.int p6), .val (.int tv), .val (.int nv), .val (.ref b1), .val (.ref b2), .val (.long (tv.toInt64)), .second, .val (.long ((p3 &&& (255 : Int32)).toInt64)), .second, .val (.long ((p4 &&& (255 : Int32)).toInt64)), .second, .val (.long ((p5 &&& (255 : Int32)).toInt64)), .second, .val (.long ((p6 &&& (255 : Int32)).toInt64)), .second, .unset, .unset] [(.long (66049 : Int64)), (.long ((p4 &&& (255 : Int32)).toInt64)), (.long (((tv.toInt64) * (4362470401 : Int64)) + (((p3 &&& (255 : Int32)).toInt64) * (16974593 : Int64))))]))
          refine ownVia (fun _ k => XS.lmul X33.here hx rfl (hb hby at_190) rfl k) ?_
          show ownFin _ _ _ _ _ (T33.setTop (mkF m 191 #[.val (.int p1), .val (.int p2), .val (.int p3), .val (.int p4), .val (.int p5), .val (.int p6), .val (.int tv), .val (.int nv), .val (.ref b1), .val (.ref b2), .val (.long (tv.toInt64)), .second, .val (.long ((p3 &&& (255 : Int32)).toInt64)), .second, .val (.long ((p4 &&& (255 : Int32)).toInt64)), .second, .val (.long ((p5 &&& (255 : Int32)).toInt64)), .second, .val (.long ((p6 &&& (255 : Int32)).toInt64)), .second, .unset, .unset] [(.long (((p4 &&& (255 : Int32)).toInt64) * (66049 : Int64))), (.long (((tv.toInt64) * (4362470401 : Int64)) + (((p3 &&& (255 : Int32)).toInt64) * (16974593 : Int64))))]))
          refine ownVia (fun _ k => XS.ladd X33.here hx rfl (hb hby at_191) rfl k) ?_
          show ownFin _ _ _ _ _ (T33.setTop (mkF m 192 #[.val (.int p1), .val (.int p2), .val (.int p3), .val (.int p4), .val (.int p5), .val (.int p6), .val (.int tv), .val (.int nv), .val (.ref b1), .val (.ref b2), .val (.long (tv.toInt64)), .second, .val (.long ((p3 &&& (255 : Int32)).toInt64)), .second, .val (.long ((p4 &&& (255 : Int32)).toInt64)), .second, .val (.long ((p5 &&& (255 : Int32)).toInt64)), .second, .val (.long ((p6 &&& (255 : Int32)).toInt64)), .second, .unset, .unset] [(.long ((((tv.toInt64) * (4362470401 : Int64)) + (((p3 &&& (255 : Int32)).toInt64) * (16974593 : Int64))) + (((p4 &&& (255 : Int32)).toInt64) * (66049 : Int64))))]))
          refine ownVia (fun _ k => XS.lload X33.here hx rfl (hb hby at_192) rfl k) ?_
          show ownFin _ _ _ _ _ (T33.setTop (mkF m 194 #[.val (.int p1), .val (.int p2), .val (.int p3), .val (.int p4), .val (.int p5), .val (.int p6), .val (.int tv), .val (.int nv), .val (.ref b1), .val (.ref b2), .val (.long (tv.toInt64)), .second, .val (.long ((p3 &&& (255 : Int32)).toInt64)), .second, .val (.long ((p4 &&& (255 : Int32)).toInt64)), .second, .val (.long ((p5 &&& (255 : Int32)).toInt64)), .second, .val (.long ((p6 &&& (255 : Int32)).toInt64)), .second, .unset, .unset] [(.long ((p5 &&& (255 : Int32)).toInt64)), (.long ((((tv.toInt64) * (4362470401 : Int64)) + (((p3 &&& (255 : Int32)).toInt64) * (16974593 : Int64))) + (((p4 &&& (255 : Int32)).toInt64) * (66049 : Int64))))]))
          refine ownVia (fun _ k => X33.ldc2Long hx hown (mvT hZ (hw _ (List.mem_of_getElem? (i := 32) rfl))) (g := (mkF m 194 #[.val (.int p1), .val (.int p2), .val (.int p3), .val (.int p4), .val (.int p5), .val (.int p6), .val (.int tv), .val (.int nv), .val (.ref b1), .val (.ref b2), .val (.long (tv.toInt64)), .second, .val (.long ((p3 &&& (255 : Int32)).toInt64)), .second, .val (.long ((p4 &&& (255 : Int32)).toInt64)), .second, .val (.long ((p5 &&& (255 : Int32)).toInt64)), .second, .val (.long ((p6 &&& (255 : Int32)).toInt64)), .second, .unset, .unset] [(.long ((p5 &&& (255 : Int32)).toInt64)), (.long ((((tv.toInt64) * (4362470401 : Int64)) + (((p3 &&& (255 : Int32)).toInt64) * (16974593 : Int64))) + (((p4 &&& (255 : Int32)).toInt64) * (66049 : Int64))))])) rfl (hb hby at_194) _ k) ?_
          show ownFin _ _ _ _ _ (T33.setTop (mkF m 197 #[.val (.int p1), .val (.int p2), .val (.int p3), .val (.int p4), .val (.int p5), .val (.int p6), .val (.int tv), .val (.int nv), .val (.ref b1), .val (.ref b2), .val (.long (tv.toInt64)), .second, .val (.long ((p3 &&& (255 : Int32)).toInt64)), .second, .val (.long ((p4 &&& (255 : Int32)).toInt64)), .second, .val (.long ((p5 &&& (255 : Int32)).toInt64)), .second, .val (.long ((p6 &&& (255 : Int32)).toInt64)), .second, .unset, .unset] [(.long (257 : Int64)), (.long ((p5 &&& (255 : Int32)).toInt64)), (.long ((((tv.toInt64) * (4362470401 : Int64)) + (((p3 &&& (255 : Int32)).toInt64) * (16974593 : Int64))) + (((p4 &&& (255 : Int32)).toInt64) * (66049 : Int64))))]))
          refine ownVia (fun _ k => XS.lmul X33.here hx rfl (hb hby at_197) rfl k) ?_
          show ownFin _ _ _ _ _ (T33.setTop (mkF m 198 #[.val (.int p1), .val (.int p2), .val (.int p3), .val (.int p4), .val (.int p5), .val (.int p6), .val (.int tv), .val (.int nv), .val (.ref b1), .val (.ref b2), .val (.long (tv.toInt64)), .second, .val (.long ((p3 &&& (255 : Int32)).toInt64)), .second, .val (.long ((p4 &&& (255 : Int32)).toInt64)), .second, .val (.long ((p5 &&& (255 : Int32)).toInt64)), .second, .val (.long ((p6 &&& (255 : Int32)).toInt64)), .second, .unset, .unset] [(.long (((p5 &&& (255 : Int32)).toInt64) * (257 : Int64))), (.long ((((tv.toInt64) * (4362470401 : Int64)) + (((p3 &&& (255 : Int32)).toInt64) * (16974593 : Int64))) + (((p4 &&& (255 : Int32)).toInt64) * (66049 : Int64))))]))
          refine ownVia (fun _ k => XS.ladd X33.here hx rfl (hb hby at_198) rfl k) ?_
          show ownFin _ _ _ _ _ (T33.setTop (mkF m 199 #[.val (.int p1), .val (.int p2), .val (.int p3), .val (.int p4), .val (.int p5), .val (.int p6), .val (.int tv), .val (.int nv), .val (.ref b1), .val (.ref b2), .val (.long (tv.toInt64)), .second, .val (.long ((p3 &&& (255 : Int32)).toInt64)), .second, .val (.long ((p4 &&& (255 : Int32)).toInt64)), .second, .val (.long ((p5 &&& (255 : Int32)).toInt64)), .second, .val (.long ((p6 &&& (255 : Int32)).toInt64)), .second, .unset, .unset] [(.long (((((tv.toInt64) * (4362470401 : Int64)) + (((p3 &&& (255 : Int32)).toInt64) * (16974593 : Int64))) + (((p4 &&& (255 : Int32)).toInt64) * (66049 : Int64))) + (((p5 &&& (255 : Int32)).toInt64) * (257 : Int64))))]))
          refine ownVia (fun _ k => XS.lload X33.here hx rfl (hb hby at_199) rfl k) ?_
          show ownFin _ _ _ _ _ (T33.setTop (mkF m 201 #[.val (.int p1), .val (.int p2), .val (.int p3), .val (.int p4), .val (.int p5), .val (.int p6), .val (.int tv), .val (.int nv), .val (.ref b1), .val (.ref b2), .val (.long (tv.toInt64)), .second, .val (.long ((p3 &&& (255 : Int32)).toInt64)), .second, .val (.long ((p4 &&& (255 : Int32)).toInt64)), .second, .val (.long ((p5 &&& (255 : Int32)).toInt64)), .second, .val (.long ((p6 &&& (255 : Int32)).toInt64)), .second, .unset, .unset] [(.long ((p6 &&& (255 : Int32)).toInt64)), (.long (((((tv.toInt64) * (4362470401 : Int64)) + (((p3 &&& (255 : Int32)).toInt64) * (16974593 : Int64))) + (((p4 &&& (255 : Int32)).toInt64) * (66049 : Int64))) + (((p5 &&& (255 : Int32)).toInt64) * (257 : Int64))))]))
          refine ownVia (fun _ k => XS.ladd X33.here hx rfl (hb hby at_201) rfl k) ?_
          show ownFin _ _ _ _ _ (T33.setTop (mkF m 202 #[.val (.int p1), .val (.int p2), .val (.int p3), .val (.int p4), .val (.int p5), .val (.int p6), .val (.int tv), .val (.int nv), .val (.ref b1), .val (.ref b2), .val (.long (tv.toInt64)), .second, .val (.long ((p3 &&& (255 : Int32)).toInt64)), .second, .val (.long ((p4 &&& (255 : Int32)).toInt64)), .second, .val (.long ((p5 &&& (255 : Int32)).toInt64)), .second, .val (.long ((p6 &&& (255 : Int32)).toInt64)), .second, .unset, .unset] [(.long ((((((tv.toInt64) * (4362470401 : Int64)) + (((p3 &&& (255 : Int32)).toInt64) * (16974593 : Int64))) + (((p4 &&& (255 : Int32)).toInt64) * (66049 : Int64))) + (((p5 &&& (255 : Int32)).toInt64) * (257 : Int64))) + ((p6 &&& (255 : Int32)).toInt64)))]))
          refine ownVia (fun _ k => XS.lstore X33.here hx rfl (hb hby at_202) rfl (l' := #[.val (.int p1), .val (.int p2), .val (.int p3), .val (.int p4), .val (.int p5), .val (.int p6), .val (.int tv), .val (.int nv), .val (.ref b1), .val (.ref b2), .val (.long (tv.toInt64)), .second, .val (.long ((p3 &&& (255 : Int32)).toInt64)), .second, .val (.long ((p4 &&& (255 : Int32)).toInt64)), .second, .val (.long ((p5 &&& (255 : Int32)).toInt64)), .second, .val (.long ((p6 &&& (255 : Int32)).toInt64)), .second, .val (.long ((((((tv.toInt64) * (4362470401 : Int64)) + (((p3 &&& (255 : Int32)).toInt64) * (16974593 : Int64))) + (((p4 &&& (255 : Int32)).toInt64) * (66049 : Int64))) + (((p5 &&& (255 : Int32)).toInt64) * (257 : Int64))) + ((p6 &&& (255 : Int32)).toInt64))), .second]) rfl k) ?_
          show ownFin _ _ _ _ _ (T33.setTop (mkF m 204 #[.val (.int p1), .val (.int p2), .val (.int p3), .val (.int p4), .val (.int p5), .val (.int p6), .val (.int tv), .val (.int nv), .val (.ref b1), .val (.ref b2), .val (.long (tv.toInt64)), .second, .val (.long ((p3 &&& (255 : Int32)).toInt64)), .second, .val (.long ((p4 &&& (255 : Int32)).toInt64)), .second, .val (.long ((p5 &&& (255 : Int32)).toInt64)), .second, .val (.long ((p6 &&& (255 : Int32)).toInt64)), .second, .val (.long ((((((tv.toInt64) * (4362470401 : Int64)) + (((p3 &&& (255 : Int32)).toInt64) * (16974593 : Int64))) + (((p4 &&& (255 : Int32)).toInt64) * (66049 : Int64))) + (((p5 &&& (255 : Int32)).toInt64) * (257 : Int64))) + ((p6 &&& (255 : Int32)).toInt64))), .second] []))
          refine ownVia (fun _ k => XS.aload X33.here hx rfl (hb hby at_204) rfl rfl k) ?_
          show ownFin _ _ _ _ _ (T33.setTop (mkF m 206 #[.val (.int p1), .val (.int p2), .val (.int p3), .val (.int p4), .val (.int p5), .val (.int p6), .val (.int tv), .val (.int nv), .val (.ref b1), .val (.ref b2), .val (.long (tv.toInt64)), .second, .val (.long ((p3 &&& (255 : Int32)).toInt64)), .second, .val (.long ((p4 &&& (255 : Int32)).toInt64)), .second, .val (.long ((p5 &&& (255 : Int32)).toInt64)), .second, .val (.long ((p6 &&& (255 : Int32)).toInt64)), .second, .val (.long ((((((tv.toInt64) * (4362470401 : Int64)) + (((p3 &&& (255 : Int32)).toInt64) * (16974593 : Int64))) + (((p4 &&& (255 : Int32)).toInt64) * (66049 : Int64))) + (((p5 &&& (255 : Int32)).toInt64) * (257 : Int64))) + ((p6 &&& (255 : Int32)).toInt64))), .second] [(.ref b2)]))
          refine ownCallV X33 hx hZ hown (hw _ (List.mem_of_getElem? (i := 33) rfl)) (hw _ (List.mem_of_getElem? (i := 34) rfl)) (hw _ (List.mem_of_getElem? (i := 36) rfl)) (hw _ (List.mem_of_getElem? (i := 36) rfl)) (hw _ (List.mem_of_getElem? (i := 35) rfl)) (hw _ (List.mem_of_getElem? (i := 9) rfl)) (hw _ (List.mem_of_getElem? (i := 37) rfl)) (by decide) (rfl : T33.heap = T33.heap) E_b2 (own_hc l Z a0 hw b2 T33.heap n0 tv b3 k_b1 nv (own_bl p3 p4 p5 p6 M) Z0 F_b2_type F_b2_value A_b3 (by rw [own_bllen p3 p4 p5 p6 hM8]; exact hM)) (by rw [hml]; rfl) [] [] (lenOf own_pd2 rfl) rfl rfl 0 rfl (hb hby at_206) (by decide) (by decide) (by decide) (by decide) ?_
          intro v42 T42 L42 X42 hq42
          obtain ⟨rfl, N42q, eq42⟩ := hq42
          have N42 := Fr.app N33 N42q
          have e42 : T42.heap = T33.heap := eq42
          show ownFin _ _ _ _ _ (T42.setTop (mkF m 209 #[.val (.int p1), .val (.int p2), .val (.int p3), .val (.int p4), .val (.int p5), .val (.int p6), .val (.int tv), .val (.int nv), .val (.ref b1), .val (.ref b2), .val (.long (tv.toInt64)), .second, .val (.long ((p3 &&& (255 : Int32)).toInt64)), .second, .val (.long ((p4 &&& (255 : Int32)).toInt64)), .second, .val (.long ((p5 &&& (255 : Int32)).toInt64)), .second, .val (.long ((p6 &&& (255 : Int32)).toInt64)), .second, .val (.long ((((((tv.toInt64) * (4362470401 : Int64)) + (((p3 &&& (255 : Int32)).toInt64) * (16974593 : Int64))) + (((p4 &&& (255 : Int32)).toInt64) * (66049 : Int64))) + (((p5 &&& (255 : Int32)).toInt64) * (257 : Int64))) + ((p6 &&& (255 : Int32)).toInt64))), .second] [(.int (own_hash tv (own_bl p3 p4 p5 p6 M)))]))
          refine ownVia (fun _ k => XS.lload X42.here hx rfl (hb hby at_209) rfl k) ?_
          show ownFin _ _ _ _ _ (T42.setTop (mkF m 211 #[.val (.int p1), .val (.int p2), .val (.int p3), .val (.int p4), .val (.int p5), .val (.int p6), .val (.int tv), .val (.int nv), .val (.ref b1), .val (.ref b2), .val (.long (tv.toInt64)), .second, .val (.long ((p3 &&& (255 : Int32)).toInt64)), .second, .val (.long ((p4 &&& (255 : Int32)).toInt64)), .second, .val (.long ((p5 &&& (255 : Int32)).toInt64)), .second, .val (.long ((p6 &&& (255 : Int32)).toInt64)), .second, .val (.long ((((((tv.toInt64) * (4362470401 : Int64)) + (((p3 &&& (255 : Int32)).toInt64) * (16974593 : Int64))) + (((p4 &&& (255 : Int32)).toInt64) * (66049 : Int64))) + (((p5 &&& (255 : Int32)).toInt64) * (257 : Int64))) + ((p6 &&& (255 : Int32)).toInt64))), .second] [(.long ((((((tv.toInt64) * (4362470401 : Int64)) + (((p3 &&& (255 : Int32)).toInt64) * (16974593 : Int64))) + (((p4 &&& (255 : Int32)).toInt64) * (66049 : Int64))) + (((p5 &&& (255 : Int32)).toInt64) * (257 : Int64))) + ((p6 &&& (255 : Int32)).toInt64))), (.int (own_hash tv (own_bl p3 p4 p5 p6 M)))]))
          refine ownVia (fun _ k => XS.l2i X42.here hx rfl (hb hby at_211) rfl k) ?_
          show ownFin _ _ _ _ _ (T42.setTop (mkF m 212 #[.val (.int p1), .val (.int p2), .val (.int p3), .val (.int p4), .val (.int p5), .val (.int p6), .val (.int tv), .val (.int nv), .val (.ref b1), .val (.ref b2), .val (.long (tv.toInt64)), .second, .val (.long ((p3 &&& (255 : Int32)).toInt64)), .second, .val (.long ((p4 &&& (255 : Int32)).toInt64)), .second, .val (.long ((p5 &&& (255 : Int32)).toInt64)), .second, .val (.long ((p6 &&& (255 : Int32)).toInt64)), .second, .val (.long ((((((tv.toInt64) * (4362470401 : Int64)) + (((p3 &&& (255 : Int32)).toInt64) * (16974593 : Int64))) + (((p4 &&& (255 : Int32)).toInt64) * (66049 : Int64))) + (((p5 &&& (255 : Int32)).toInt64) * (257 : Int64))) + ((p6 &&& (255 : Int32)).toInt64))), .second] [(.int (((((((tv.toInt64) * (4362470401 : Int64)) + (((p3 &&& (255 : Int32)).toInt64) * (16974593 : Int64))) + (((p4 &&& (255 : Int32)).toInt64) * (66049 : Int64))) + (((p5 &&& (255 : Int32)).toInt64) * (257 : Int64))) + ((p6 &&& (255 : Int32)).toInt64)).toInt32)), (.int (own_hash tv (own_bl p3 p4 p5 p6 M)))]))
          have hMN : M = 4 := by omega
          refine ownVia (fun _ k => XS.icmpNo X42.here hx rfl (hb hby at_212) rfl (teq (by rw [hMN]; exact own_h4 tv p3 p4 p5 p6)).2 k) ?_
          show ownFin _ _ _ _ _ (T42.setTop (mkF m 215 #[.val (.int p1), .val (.int p2), .val (.int p3), .val (.int p4), .val (.int p5), .val (.int p6), .val (.int tv), .val (.int nv), .val (.ref b1), .val (.ref b2), .val (.long (tv.toInt64)), .second, .val (.long ((p3 &&& (255 : Int32)).toInt64)), .second, .val (.long ((p4 &&& (255 : Int32)).toInt64)), .second, .val (.long ((p5 &&& (255 : Int32)).toInt64)), .second, .val (.long ((p6 &&& (255 : Int32)).toInt64)), .second, .val (.long ((((((tv.toInt64) * (4362470401 : Int64)) + (((p3 &&& (255 : Int32)).toInt64) * (16974593 : Int64))) + (((p4 &&& (255 : Int32)).toInt64) * (66049 : Int64))) + (((p5 &&& (255 : Int32)).toInt64) * (257 : Int64))) + ((p6 &&& (255 : Int32)).toInt64))), .second] []))
          refine ownVia (fun _ k => XS.iconst X42.here hx rfl (hb hby at_215) k) ?_
          show ownFin _ _ _ _ _ (T42.setTop (mkF m 216 #[.val (.int p1), .val (.int p2), .val (.int p3), .val (.int p4), .val (.int p5), .val (.int p6), .val (.int tv), .val (.int nv), .val (.ref b1), .val (.ref b2), .val (.long (tv.toInt64)), .second, .val (.long ((p3 &&& (255 : Int32)).toInt64)), .second, .val (.long ((p4 &&& (255 : Int32)).toInt64)), .second, .val (.long ((p5 &&& (255 : Int32)).toInt64)), .second, .val (.long ((p6 &&& (255 : Int32)).toInt64)), .second, .val (.long ((((((tv.toInt64) * (4362470401 : Int64)) + (((p3 &&& (255 : Int32)).toInt64) * (16974593 : Int64))) + (((p4 &&& (255 : Int32)).toInt64) * (66049 : Int64))) + (((p5 &&& (255 : Int32)).toInt64) * (257 : Int64))) + ((p6 &&& (255 : Int32)).toInt64))), .second] [(.int (1 : Int32))]))
          refine ownVia (fun _ k => XS.goto X42.here hx rfl (pc0 := 216) (pc' := 220) rfl (hb hby at_216) (by decide) (by decide) k) ?_
          show ownFin _ _ _ _ _ (T42.setTop (mkF m 220 #[.val (.int p1), .val (.int p2), .val (.int p3), .val (.int p4), .val (.int p5), .val (.int p6), .val (.int tv), .val (.int nv), .val (.ref b1), .val (.ref b2), .val (.long (tv.toInt64)), .second, .val (.long ((p3 &&& (255 : Int32)).toInt64)), .second, .val (.long ((p4 &&& (255 : Int32)).toInt64)), .second, .val (.long ((p5 &&& (255 : Int32)).toInt64)), .second, .val (.long ((p6 &&& (255 : Int32)).toInt64)), .second, .val (.long ((((((tv.toInt64) * (4362470401 : Int64)) + (((p3 &&& (255 : Int32)).toInt64) * (16974593 : Int64))) + (((p4 &&& (255 : Int32)).toInt64) * (66049 : Int64))) + (((p5 &&& (255 : Int32)).toInt64) * (257 : Int64))) + ((p6 &&& (255 : Int32)).toInt64))), .second] [(.int (1 : Int32))]))
          refine ownRetZ X42 hx hlk hret (hb hby at_220) (by decide) (by decide) (Or.inr rfl) ?_
          show (Q_own_law Z p1 p2 p3 p4 p5 p6 h0 n0 ) (some (.int (1 : Int32))) T42.heap _
          rw [e42]
          exact ⟨rfl, N42⟩
set_option maxRecDepth 65536 in
set_option maxHeartbeats 40000000 in
theorem own_comes {Post : Tables → Env → Array Value → State → Outcome → State → Prop} (hpost : ∀ tb e args s v u, (limb_1_1.after args s (.returned v) u = true ∧ limb_1_2.after args s (.returned v) u = true ∧ True) → FrameEnd s (.returned v) u (Jvm.fieldLocs frame_1_writes args s ++ Jvm.arrayLocs frame_1_arrays args s ++ Jvm.staticLocs frame_1_statics s) 16 128 → Post tb e args s (.returned v) u) :
    ArmFor flags0 classFile x code maxLocals ret World_1 tables_1 room_1 Calls_1 rest_1 Pre_1 Post := by
  intro l hfl _ _ p e ha hc hk s m args below hf hA hF happ hP
  obtain ⟨hcalls, hrest, hpre⟩ := hP
  obtain ⟨-, -, -, hnamed, -, -, -, hat⟩ := (Spec.applies_iff hf).mp happ
  obtain ⟨hg, hn⟩ := and_e (Cond.before_iff.mp (show (Jvm.Cond.and given_1 narrow_1).before args s = true from hpre))
  obtain ⟨hcount, hg0⟩ := and_e hg
  obtain ⟨w0, w1, w2, w3, w4, w5, rfl⟩ : ∃ w0 w1 w2 w3 w4 w5 : Value, args = #[w0, w1, w2, w3, w4, w5] := by
    have hs : args.size = 6 := by simpa [Cond.value, given_1] using hcount
    obtain ⟨L⟩ := args
    match L, hs with
    | [w0, w1, w2, w3, w4, w5], _ => exact ⟨w0, w1, w2, w3, w4, w5, rfl⟩
  have hw := fun d (hd : d ∈ tables_1) => atoms_spec (ws := Jvm.Cond.code x code maxLocals ret :: tables_1) hat d (List.mem_cons_of_mem _ hd)
  have hfit : Fit s := fun {y c} hc i hi => by
    obtain ⟨ha, rfl⟩ := Array.getElem?_eq_some_iff.mp hc
    have q := List.all_eq_true.mp ((Array.all_eq_true_iff_forall_mem.mp hF) _ (Array.getElem_mem ha)) i (List.mem_range.mpr hi)
    simpa [Array.getElem?_eq_getElem hi] using q
  obtain ⟨hq0, hg1⟩ := and_e hg0
  obtain ⟨i0, ei0⟩ := is_v hq0
  obtain rfl : w0 = (.int i0) := Option.some.inj ei0
  obtain ⟨hq1, hg2⟩ := and_e hg1
  obtain ⟨i1, ei1⟩ := is_v hq1
  obtain rfl : w1 = (.int i1) := Option.some.inj ei1
  obtain ⟨hq2, hg3⟩ := and_e hg2
  obtain ⟨i2, ei2⟩ := is_v hq2
  obtain rfl : w2 = (.int i2) := Option.some.inj ei2
  obtain ⟨hq3, hg4⟩ := and_e hg3
  obtain ⟨i3, ei3⟩ := is_v hq3
  obtain rfl : w3 = (.int i3) := Option.some.inj ei3
  obtain ⟨hq4, hg5⟩ := and_e hg4
  obtain ⟨i4, ei4⟩ := is_v hq4
  obtain rfl : w4 = (.int i4) := Option.some.inj ei4
  obtain ⟨i5, ei5⟩ := is_v hg5
  obtain rfl : w5 = (.int i5) := Option.some.inj ei5
  obtain ⟨n, o, h1, h2, h3, _, L, rfl, ⟨rfl, N⟩, hq⟩ := own_law l s _ hw tables_1 i0 i1 i2 i3 i4 i5 s.heap s.heap.size  (Nat.le_refl _)  p e ha hc hk s m _ below hf ((Spec.applies_iff_loose hf).mp happ).1 ⟨rfl, State.Warmed39.refl s, rfl⟩ trivial
  refine ⟨n, _, h1, h2, h3, hpost _ _ _ _ _ _ ⟨Cond.after_iff.mpr rfl, Cond.after_iff.mpr (eq_i res_at (Term.int_eval (1)) rfl), trivial⟩ ⟨hq.1, hq.2.1, (hq.2.2.sift fun y hy => Or.inr (N y hy)).mono (by decide) (by decide)⟩⟩
theorem main_1_1 : Claimed_1_1 := own_comes fun _ _ _ _ _ _ h hF => ⟨h.1, hF⟩
theorem main_1_2 : Claimed_1_2 := own_comes fun _ _ _ _ _ _ h hF => ⟨h.2.1, hF⟩
end Jvm.Pilot.@@N@@
namespace Jvm.Pilot.@@N@@
open Jvm Jvm.ClassFile Sem Op Lib Jvm.Free Jvm.Stand Jvm.Pilot.@@N@@.Jvm.D
/-! MADE BY PROGRAM (witnessworld.py) out of the Statement's table words and the real class files: 9 classes; the members and pool entries that the words name. The judged class is class 1, her method 2. -/
namespace start1
open Jvm.ClassFile
def u (s : String) : CpInfo := .utf8 (stringToUtf16 s)
/-- a pool by its gaps: so many unusable entries, then the entry; so many at the end -/
def gap : Nat → List CpInfo → List CpInfo
  | 0, r => r
  | n + 1, r => .unusable :: gap n r
def poolList (es : List (Nat × CpInfo)) (last : Nat) : List CpInfo := es.foldr (fun e r => gap e.1 (e.2 :: r)) (gap last [])
def pool (es : List (Nat × CpInfo)) (last : Nat) : Array CpInfo := ⟨poolList es last⟩
def fileOf (pool : Array CpInfo) (this : Nat) (attrs : Array Attribute := #[]) (ms : Array MethodInfo := #[]) (fl : Nat := 33) (sup : Nat := 0) (ifs : Array Nat := #[]) (fds : Array FieldInfo := #[]) : ClassFile where
  minorVersion := 0
  majorVersion := 65
  constantPool := pool
  accessFlags := fl
  thisClass := this
  superClass := sup
  interfaces := ifs
  fields := fds
  methods := ms
  attributes := attrs
def plain (name : String) (sup : Option ClassId) : Class where
  name := name
  kind := .ordinary
  loader := none
  accessFlags := 33
  super := sup
  interfaces := #[]
  cf := none
  fields := #[]
  methods := #[]
  instanceTypes := #[]
  staticTypes := #[]
  resolved := #[]
  callSites := []
  init := .initialized
  statics := none
  mirror := none

def pool0 : Array CpInfo := pool [(5, u "<init>"), (0, u "()V"), (1, .class_ 10), (1, u "java/lang/Object"), (85, u "clone"), (0, u "()Ljava/lang/Object;")] 26

def k0c0 : Code := { maxStack := 0, maxLocals := 1, code := object_method_1_code, exceptionTable := #[], attributes := #[] }
def k0m0 : Method := { name := "<init>", desc := "()V", sig := { parameters := [], returnType := none }, accessFlags := 1, code := some k0c0 }
def k0m1 : Method := { name := "clone", desc := "()Ljava/lang/Object;", sig := { parameters := [], returnType := some (.object "java/lang/Object") }, accessFlags := 260, code := none }
/-- java/lang/Object -/
def k0 : Class := { plain "java/lang/Object" none with
  accessFlags := 33
  interfaces := #[]
  cf := some (fileOf pool0 8 #[] #[{ accessFlags := 1, nameIndex := 5, descriptorIndex := 6, attributes := #[] }, { accessFlags := 260, nameIndex := 96, descriptorIndex := 97, attributes := #[] }] 33 0 #[] #[])
  fields := #[]
  methods := #[k0m0, k0m1]
  instanceTypes := #[]
  staticTypes := #[]
  resolved := Array.replicate 124 none
  statics := none }

def pool1 : Array CpInfo := pool [(2, .class_ 4), (1, u "java/lang/Object"), (0, u "<init>"), (0, u "()V"), (0, .integer 65535), (0, .integer 2147483647), (0, .methodref 10 11), (0, .class_ 12), (0, .nameAndType 13 14), (0, u "com/example/cairn/cairn/ccnx/TlvHashCodePinLaw"), (0, u "bytes"), (0, u "(IIIII)[B"), (0, .class_ 16), (0, u "com/example/cairn/cairn/ccnx/Tlv"), (0, .methodref 15 18), (0, .nameAndType 5 19), (0, u "(I[B)V"), (0, .long 257), (1, .long 66049), (1, .long 16974593), (1, .long 4362470401), (1, .methodref 15 29), (0, .nameAndType 30 31), (0, u "hashCode"), (0, u "()I"), (3, u "law"), (0, u "(IIIIII)Z")] 4

def k1m0 : Method := { name := "<init>", desc := "()V", sig := { parameters := [], returnType := none }, accessFlags := 1, code := none }
def k1c1 : Code := { maxStack := 4, maxLocals := 5, code := method_2_code, exceptionTable := #[], attributes := #[] }
def k1m1 : Method := { name := "bytes", desc := "(IIIII)[B", sig := { parameters := [.int, .int, .int, .int, .int], returnType := some (.array .byte) }, accessFlags := 10, code := some k1c1 }
def k1c2 : Code := { maxStack := 6, maxLocals := 22, code := code, exceptionTable := #[], attributes := #[] }
def k1m2 : Method := { name := "law", desc := "(IIIIII)Z", sig := { parameters := [.int, .int, .int, .int, .int, .int], returnType := some .boolean }, accessFlags := 9, code := some k1c2 }
/-- com/example/cairn/cairn/ccnx/TlvHashCodePinLaw -/
def k1 : Class := { plain "com/example/cairn/cairn/ccnx/TlvHashCodePinLaw" (some 0) with
  accessFlags := 49
  interfaces := #[]
  cf := some (fileOf pool1 10 #[] #[{ accessFlags := 1, nameIndex := 5, descriptorIndex := 6, attributes := #[] }, { accessFlags := 10, nameIndex := 13, descriptorIndex := 14, attributes := #[] }, { accessFlags := 9, nameIndex := 35, descriptorIndex := 36, attributes := #[] }] 49 2 #[] #[])
  fields := #[]
  methods := #[k1m0, k1m1, k1m2]
  instanceTypes := #[]
  staticTypes := #[]
  resolved := Array.replicate 41 none
  statics := none }

def pool2 : Array CpInfo := pool [(1, .methodref 2 3), (0, .class_ 4), (0, .nameAndType 5 6), (0, u "java/lang/Object"), (0, u "<init>"), (0, u "()V"), (0, .class_ 8), (0, u "com/example/cairn/cairn/ccnx/Tlv"), (0, .integer 65535), (10, .fieldref 7 21), (0, .nameAndType 22 23), (0, u "type"), (0, u "I"), (0, .methodref 25 26), (0, .class_ 27), (0, .nameAndType 28 29), (0, u "[B"), (0, u "clone"), (0, u "()Ljava/lang/Object;"), (0, .fieldref 7 31), (0, .nameAndType 32 27), (0, u "value"), (6, u "(I[B)V"), (62, u "()I"), (31, u "HEADER_OCTETS"), (2, u "MAX_LENGTH"), (0, u "MAX_TYPE"), (0, u "T_PAD"), (1, u "T_SHA256"), (21, u "hashCode")] 21

def k2c0 : Code := { maxStack := 3, maxLocals := 3, code := prog_8_method_1_code, exceptionTable := #[], attributes := #[] }
def k2m0 : Method := { name := "<init>", desc := "(I[B)V", sig := { parameters := [.int, (.array .byte)], returnType := none }, accessFlags := 1, code := some k2c0 }
def k2c1 : Code := { maxStack := 3, maxLocals := 6, code := prog_8_method_17_code, exceptionTable := #[], attributes := #[] }
def k2m1 : Method := { name := "hashCode", desc := "()I", sig := { parameters := [], returnType := some .int }, accessFlags := 1, code := some k2c1 }
/-- com/example/cairn/cairn/ccnx/Tlv -/
def k2 : Class := { plain "com/example/cairn/cairn/ccnx/Tlv" (some 0) with
  accessFlags := 49
  interfaces := #[]
  cf := some (fileOf pool2 7 #[] #[{ accessFlags := 1, nameIndex := 5, descriptorIndex := 39, attributes := #[] }, { accessFlags := 1, nameIndex := 163, descriptorIndex := 102, attributes := #[] }] 49 2 #[] #[{ accessFlags := 24, nameIndex := 134, descriptorIndex := 23, attributes := #[] }, { accessFlags := 24, nameIndex := 137, descriptorIndex := 23, attributes := #[] }, { accessFlags := 26, nameIndex := 138, descriptorIndex := 23, attributes := #[] }, { accessFlags := 24, nameIndex := 139, descriptorIndex := 23, attributes := #[] }, { accessFlags := 24, nameIndex := 141, descriptorIndex := 23, attributes := #[] }, { accessFlags := 18, nameIndex := 22, descriptorIndex := 23, attributes := #[] }, { accessFlags := 18, nameIndex := 32, descriptorIndex := 27, attributes := #[] }])
  fields := #[{ name := "HEADER_OCTETS", type := .int, accessFlags := 24, slot := 0, constantValue := 0 }, { name := "MAX_LENGTH", type := .int, accessFlags := 24, slot := 1, constantValue := 0 }, { name := "MAX_TYPE", type := .int, accessFlags := 26, slot := 2, constantValue := 0 }, { name := "T_PAD", type := .int, accessFlags := 24, slot := 3, constantValue := 0 }, { name := "T_SHA256", type := .int, accessFlags := 24, slot := 4, constantValue := 0 }, { name := "type", type := .int, accessFlags := 18, slot := 0, constantValue := 0 }, { name := "value", type := (.array .byte), accessFlags := 18, slot := 1, constantValue := 0 }]
  methods := #[k2m0, k2m1]
  instanceTypes := #[.int, (.array .byte)]
  staticTypes := #[.int, .int, .int, .int, .int]
  resolved := Array.replicate 185 none
  statics := none }

def pool3 : Array CpInfo := pool [(1, .class_ 2), (0, u "java/lang/Cloneable"), (0, .class_ 4), (0, u "java/lang/Object")] 2

/-- java/lang/Cloneable -/
def k3 : Class := { plain "java/lang/Cloneable" (some 0) with
  accessFlags := 1537
  interfaces := #[]
  cf := some (fileOf pool3 1 #[] #[] 1537 3 #[] #[])
  fields := #[]
  methods := #[]
  instanceTypes := #[]
  staticTypes := #[]
  resolved := Array.replicate 7 none
  statics := none }

def pool4 : Array CpInfo := pool [(1, u "java/io/Serializable"), (0, .class_ 1), (0, u "java/lang/Object"), (0, .class_ 3)] 3

/-- java/io/Serializable -/
def k4 : Class := { plain "java/io/Serializable" (some 0) with
  accessFlags := 1537
  interfaces := #[]
  cf := some (fileOf pool4 2 #[] #[] 1537 4 #[] #[])
  fields := #[]
  methods := #[]
  instanceTypes := #[]
  staticTypes := #[]
  resolved := Array.replicate 8 none
  statics := none }

/-- the primitive byte -/
def k5 : Class := { plain "byte" none with kind := .primitive 'B', accessFlags := 0x411 }
/-- [B -/
def k6 : Class := { plain "[B" (some 0) with kind := .array 5 .byte, interfaces := #[3, 4], accessFlags := 1041 }

/-- the primitive int -/
def k7 : Class := { plain "int" none with kind := .primitive 'I', accessFlags := 0x411 }
/-- [I -/
def k8 : Class := { plain "[I" (some 0) with kind := .array 7 .int, interfaces := #[3, 4], accessFlags := 1041 }

def heap : Heap := #[]
def classes : Array Class := #[k0, k1, k2, k3, k4, k5, k6, k7, k8]
def interned : List (Array UInt16 × Addr) := []
def slotsUsed : Nat := 0
def theMethod : MethodId := ⟨1, 2⟩
def args0 : Array Value := #[.int 5, .int 3, .int 4, .int 3, .int 4, .int 3]
def aboutOver (below : List Frame) : State where
  vm := { classes := classes, interned := interned.toArray }
  heap := heap
  slotsUsed := slotsUsed
  threads := #[{ frames := .invoking theMethod args0 :: below }]
def below0 : List Frame := [.native { method := ⟨0, 0⟩, args := #[] }]
def about1 : State := aboutOver below0
def p0 : Program := .bare "" "" ""
def e0 : Env := launch0.env 0 0 0
theorem w_frames : about1.frames = Frame.invoking theMethod args0 :: below0 := rfl
set_option maxRecDepth 65536 in
theorem w_args : argsFit about1.vm theMethod args0 = true := by decide +kernel
set_option maxRecDepth 65536 in
theorem w_heap : heapFits about1 = true := by decide +kernel
set_option maxRecDepth 65536 in
theorem w_runnable : about1.curStatus? = some .runnable := by decide +kernel
set_option maxRecDepth 65536 in
theorem w_alone : about1.alone = true := by decide +kernel
set_option maxRecDepth 65536 in
theorem w_named : about1.methodNamed? x = some theMethod := by decide +kernel
set_option maxRecDepth 65536 in
theorem w_hears : about1.hears theMethod below0 = true := by decide +kernel
set_option maxRecDepth 65536 in
theorem w_ripe : about1.ripe theMethod args0 below0 = true := by decide +kernel
theorem w_running : about1.status = .running := rfl
set_option maxRecDepth 65536 in
theorem w_room : about1.hasRoom e0.platform room_1 = true :=
  launch0.hasRoom_least _ room_1 (by decide +kernel) (by decide +kernel) (by decide +kernel) (by decide +kernel) (by decide +kernel) (by decide +kernel)
theorem allAtoms_all (ts : List Jvm.Cond) (a : Array Jvm.Value) (st : Jvm.State) : (allAtoms ts).before a st = ts.all (fun c => c.before a st) := by
  induction ts with
  | nil => rfl
  | cons c t ih =>
    show (Jvm.Cond.and c (allAtoms t)).before a st = _
    rw [Jvm.Cond.before_and, ih, List.all_cons]
def words1 : List Jvm.Cond := Jvm.Cond.code x code maxLocals ret :: tables_1
/-- a 'code' word, met by the world's own term for the bytes: nothing is compared byte by byte -/
theorem code_word {y : MethodName} {bytes : ByteArray} {mx : Nat} {rt : Option FieldType} {a : Array Value} {s : State} {m : MethodId} {meth : Method} {c : Code} (h1 : s.methodNamed? y = some m) (h2 : s.vm.method? m = some meth) (h3 : meth.code = some c) (h4 : c.code = bytes)
    (h5 : (c.maxLocals == mx && c.exceptionTable.isEmpty && decide (c.maxStack ≤ mostOperands) && decide (meth.sig.returnType = rt) && !meth.locks && decide (parseMethodDescriptor y.desc = some meth.sig)) = true) : (Jvm.Cond.code y bytes mx rt).before a s = true := by
  simp only [Bool.and_eq_true, beq_iff_eq, Bool.not_eq_true', decide_eq_true_eq] at h5
  obtain ⟨⟨⟨⟨⟨g1, g2⟩, g3⟩, g4⟩, g5⟩, g6⟩ := h5
  simp [Cond.before, Cond.holds, Cond.value, h1, h2, h3, h4, g1, g2, g3, g4, g5, g6]
def isCode : Jvm.Cond → Bool
  | .code _ _ _ _ => true
  | _ => false
theorem all_split {L : List Jvm.Cond} {P : Jvm.Cond → Bool} (h1 : L.all (fun c => isCode c || P c) = true) (h2 : ∀ c ∈ L.filter isCode, P c = true) : L.all P = true := by
  refine List.all_eq_true.mpr fun c hc => ?_
  have h := List.all_eq_true.mp h1 c hc
  rcases Bool.eq_false_or_eq_true (isCode c) with hi | hi
  · exact h2 c (List.mem_filter.mpr ⟨hc, hi⟩)
  · simpa [hi] using h
set_option maxRecDepth 65536 in
theorem w_c0 : (Jvm.Cond.code x code maxLocals ret).before args0 about1 = true := code_word (m := ⟨1, 2⟩) (meth := k1m2) (c := k1c2) (by decide +kernel) rfl rfl rfl (by decide +kernel)
set_option maxRecDepth 65536 in
theorem w_c1 : (Jvm.Cond.code ({ cls := "com/example/cairn/cairn/ccnx/TlvHashCodePinLaw", name := "bytes", desc := "(IIIII)[B" } : Jvm.MethodName) method_2_code (5 : Nat) (Option.some (Jvm.ClassFile.FieldType.array Jvm.ClassFile.FieldType.byte))).before args0 about1 = true := code_word (m := ⟨1, 1⟩) (meth := k1m1) (c := k1c1) (by decide +kernel) rfl rfl rfl (by decide +kernel)
set_option maxRecDepth 65536 in
theorem w_c2 : (Jvm.Cond.code ({ cls := "com/example/cairn/cairn/ccnx/Tlv", name := "<init>", desc := "(I[B)V" } : Jvm.MethodName) prog_8_method_1_code (3 : Nat) (Option.none : Option Jvm.ClassFile.FieldType)).before args0 about1 = true := code_word (m := ⟨2, 0⟩) (meth := k2m0) (c := k2c0) (by decide +kernel) rfl rfl rfl (by decide +kernel)
set_option maxRecDepth 65536 in
theorem w_c3 : (Jvm.Cond.code ({ cls := "java/lang/Object", name := "<init>", desc := "()V" } : Jvm.MethodName) object_method_1_code (1 : Nat) (Option.none : Option Jvm.ClassFile.FieldType)).before args0 about1 = true := code_word (m := ⟨0, 0⟩) (meth := k0m0) (c := k0c0) (by decide +kernel) rfl rfl rfl (by decide +kernel)
set_option maxRecDepth 65536 in
theorem w_c4 : (Jvm.Cond.code ({ cls := "com/example/cairn/cairn/ccnx/Tlv", name := "hashCode", desc := "()I" } : Jvm.MethodName) prog_8_method_17_code (6 : Nat) (Option.some Jvm.ClassFile.FieldType.int)).before args0 about1 = true := code_word (m := ⟨2, 1⟩) (meth := k2m1) (c := k2c1) (by decide +kernel) rfl rfl rfl (by decide +kernel)
def codes1 : List Jvm.Cond := [Jvm.Cond.code x code maxLocals ret, Jvm.Cond.code ({ cls := "com/example/cairn/cairn/ccnx/TlvHashCodePinLaw", name := "bytes", desc := "(IIIII)[B" } : Jvm.MethodName) method_2_code (5 : Nat) (Option.some (Jvm.ClassFile.FieldType.array Jvm.ClassFile.FieldType.byte)), Jvm.Cond.code ({ cls := "com/example/cairn/cairn/ccnx/Tlv", name := "<init>", desc := "(I[B)V" } : Jvm.MethodName) prog_8_method_1_code (3 : Nat) (Option.none : Option Jvm.ClassFile.FieldType), Jvm.Cond.code ({ cls := "java/lang/Object", name := "<init>", desc := "()V" } : Jvm.MethodName) object_method_1_code (1 : Nat) (Option.none : Option Jvm.ClassFile.FieldType), Jvm.Cond.code ({ cls := "com/example/cairn/cairn/ccnx/Tlv", name := "hashCode", desc := "()I" } : Jvm.MethodName) prog_8_method_17_code (6 : Nat) (Option.some Jvm.ClassFile.FieldType.int)]
set_option maxRecDepth 65536 in
theorem codes_eq : words1.filter isCode = codes1 := rfl
theorem w_codes : ∀ c ∈ words1.filter isCode, c.before args0 about1 = true := by
  rw [codes_eq]
  intro c hc
  simp only [codes1, List.mem_cons, List.not_mem_nil, or_false] at hc
  rcases hc with rfl | rfl | rfl | rfl | rfl
  · exact w_c0
  · exact w_c1
  · exact w_c2
  · exact w_c3
  · exact w_c4
set_option maxRecDepth 65536 in
theorem w_t1 : (words1.take 24).all (fun c => isCode c || c.before args0 about1) = true := by decide +kernel
set_option maxRecDepth 65536 in
theorem w_t2 : (words1.drop 24).all (fun c => isCode c || c.before args0 about1) = true := by decide +kernel
theorem w_tables : (allAtoms (Jvm.Cond.code x code maxLocals ret :: tables_1)).before args0 about1 = true := by
  rw [allAtoms_all]
  show words1.all (fun c => c.before args0 about1) = true
  refine all_split ?_ w_codes
  rw [← List.take_append_drop 24 words1, List.all_append, w_t1, w_t2]
  rfl
set_option maxRecDepth 65536 in
theorem w_case : (Jvm.Cond.and given_1 narrow_1).before args0 about1 = true := by decide +kernel
theorem w_applies : (headSpec (Jvm.Cond.code x code maxLocals ret :: tables_1) room_1).applies x e0.platform about1 = true :=
  (Spec.applies_iff w_frames).mpr ⟨w_running, w_runnable, w_alone, w_named, w_hears, w_ripe, w_room, w_tables⟩
theorem atStart : AtStart classFile x code maxLocals ret World_1 tables_1 room_1 Calls_1 rest_1 Pre_1 launch0 p0 e0 about1 theMethod args0 below0 :=
  ⟨lists_1, trivial, launch0.admits_env _ _ _, launch0.least_env, fairChoices_fair.cas, fairChoices_fair.clock, w_frames, w_args, w_heap, w_applies, trivial, trivial, w_case⟩
end start1
theorem witness_1 : WitnessClaimed_1 := ⟨start1.p0, start1.e0, start1.about1, start1.theMethod, start1.args0, start1.below0, start1.atStart⟩
end Jvm.Pilot.@@N@@
