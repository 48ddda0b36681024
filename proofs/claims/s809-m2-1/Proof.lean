import JvmDerived
import JvmDerived.Pilot.@@N@@Statement
import JvmDerived.Pilot.@@N@@Code
set_option linter.unusedVariables false
set_option linter.unusedSimpArgs false
namespace Jvm.Pilot.@@N@@
open Jvm Jvm.ClassFile Sem Op Lib Jvm.Free Jvm.Stand Jvm.LawKit Jvm.RoadKit Bundle Jvm.Pilot.@@N@@.Jvm.D
section Own
variable {p : Program} {l : Launch} {e : Env} {R : Room} {s : State} {m : MethodId} {args : Array Value} {below : List Frame} {meth : Method} {c : Code} {T : State} {locs : List Loc} {cells slots : Nat} {Z : State} {a0 : Array Value} {h : Heap} {Q : Option Value → Heap → List Loc → Prop} {C S : Nat} {u u' : State} {F : Outcome → State → List Loc → Prop}
/-- from u the invocation comes to its end, and Q holds of what it returns, of the heap and of the places written -/
def ownFin (p : Program) (e : Env) (below : List Frame) (F : Outcome → State → List Loc → Prop) (Q : Option Value → Heap → List Loc → Prop) (u : State) : Prop :=
  ∃ t o, Steps p.tables e below u t ∧ t.status = .running ∧ Ended t below o ∧ ∃ v L, o = .returned v ∧ Q v t.heap L ∧ F o t L
/-- how it ends: at most C new cells of S slots, the tables warmer, nothing old written but at the places L -/
def ownFE (s : State) (C S : Nat) : Outcome → State → List Loc → Prop := fun o t L => FrameEnd s o t L C S
theorem ownVia (f : ∀ t, Steps p.tables e below u' t → Steps p.tables e below u t) (k : ownFin p e below F Q u') : ownFin p e below F Q u := by
  obtain ⟨t, o, h1, r⟩ := k
  exact ⟨t, o, f t h1, r⟩
theorem ownRet (X : Stand p l e R s m args below meth c T locs cells slots) (hlk : meth.locks = false) {v : Option Value} (hv : meth.sig.returnType = none → v = none)
    (f : ∀ fs, (∀ (f : JFrame) (acts : List Action), f.method = m → f.locked = none → f.entered = [] → (doReturn e (T.setTop f) acts v).1 = T.setFrames fs) → Steps p.tables e below u (T.setFrames fs))
    (hC : cells ≤ C) (hS : slots ≤ S) (hQ : Q v T.heap locs) : ownFin p e below (ownFE s C S) Q u := by
  obtain ⟨fs, hr, hrun, hended, hW, hsame⟩ := X.leave (v := v) hv hlk
  exact ⟨_, _, f fs hr, hrun, hended, v, _, rfl, hQ, ⟨_, rfl⟩, hW, hsame.mono hC hS⟩
theorem ownRetI (X : Stand p l e R s m args below meth c T locs cells slots) (hx : p.tables.exec = Jvm.exec) (hlk : meth.locks = false) (hret : meth.sig.returnType = some .int) {pc : Nat} {Ls : Array Slot} {z : Int32} {rest : List Value} (hd : decode c.code pc = .ok (.ireturn, 1)) (hC : cells ≤ C) (hS : slots ≤ S) (hQ : Q (some (.int z)) T.heap locs) : ownFin p e below (ownFE s C S) Q (T.setTop (mkF m pc Ls (.int z :: rest))) :=
  ownRet X hlk (v := some (.int z)) (fun q => by rw [hret] at q; cases q) (fun fs hr => retOut X hx hret rfl (Or.inl ⟨rfl, Or.inl rfl, z, rfl⟩) hd hr) hC hS hQ
theorem ownRetZ (X : Stand p l e R s m args below meth c T locs cells slots) (hx : p.tables.exec = Jvm.exec) (hlk : meth.locks = false) (hret : meth.sig.returnType = some .boolean) {pc : Nat} {Ls : Array Slot} {z : Int32} {rest : List Value} (hd : decode c.code pc = .ok (.ireturn, 1)) (hC : cells ≤ C) (hS : slots ≤ S) (hz : z = 0 ∨ z = 1) (hQ : Q (some (.int z)) T.heap locs) : ownFin p e below (ownFE s C S) Q (T.setTop (mkF m pc Ls (.int z :: rest))) :=
  ownRet X hlk (v := some (.int z)) (fun q => by rw [hret] at q; cases q) (fun fs hr => retOut X hx hret (by rcases hz with rfl | rfl <;> rfl) (Or.inl ⟨rfl, Or.inr (Or.inl rfl), z, rfl⟩) hd hr) hC hS hQ
theorem ownRetJ (X : Stand p l e R s m args below meth c T locs cells slots) (hx : p.tables.exec = Jvm.exec) (hlk : meth.locks = false) (hret : meth.sig.returnType = some .long) {pc : Nat} {Ls : Array Slot} {z : Int64} {rest : List Value} (hd : decode c.code pc = .ok (.lreturn, 1)) (hC : cells ≤ C) (hS : slots ≤ S) (hQ : Q (some (.long z)) T.heap locs) : ownFin p e below (ownFE s C S) Q (T.setTop (mkF m pc Ls (.long z :: rest))) :=
  ownRet X hlk (v := some (.long z)) (fun q => by rw [hret] at q; cases q) (fun fs hr => retOut X hx hret rfl (Or.inr (Or.inl ⟨rfl, rfl, z, rfl⟩)) hd hr) hC hS hQ
theorem ownRetA (X : Stand p l e R s m args below meth c T locs cells slots) (hx : p.tables.exec = Jvm.exec) (hlk : meth.locks = false) {ty : FieldType} (hret : meth.sig.returnType = some ty) (hty : ty.isReference = true) {pc : Nat} {Ls : Array Slot} {a : Addr} {rest : List Value} (hd : decode c.code pc = .ok (.areturn, 1)) (hC : cells ≤ C) (hS : slots ≤ S) (hQ : Q (some (.ref a)) T.heap locs) : ownFin p e below (ownFE s C S) Q (T.setTop (mkF m pc Ls (.ref a :: rest))) :=
  ownRet X hlk (v := some (.ref a)) (fun q => by rw [hret] at q; cases q) (fun fs hr => retOut X hx hret (by cases ty <;> first | rfl | cases hty) (Or.inr (Or.inr (Or.inr (Or.inr ⟨rfl, hty, rfl⟩)))) hd hr) hC hS hQ
theorem ownRetV (X : Stand p l e R s m args below meth c T locs cells slots) (hx : p.tables.exec = Jvm.exec) (hlk : meth.locks = false) (hret : meth.sig.returnType = none) {pc : Nat} {Ls : Array Slot} (hd : decode c.code pc = .ok (.return_, 1)) (hC : cells ≤ C) (hS : slots ≤ S) (hQ : Q none T.heap locs) : ownFin p e below (ownFE s C S) Q (T.setTop (mkF m pc Ls [])) :=
  ownRet X hlk (v := none) (fun _ => rfl) (fun fs hr => X.returnOut hx hret hd hr) hC hS hQ
/-- the contract of a method at given arguments and a given heap -/
abbrev ownMet (l : Launch) (Z : State) (y : MethodName) (bytes : ByteArray) (maxL : Nat) (ret : Option FieldType) (ws : List Jvm.Cond) (rm : Room) (as' : Array Value) (h0 : Heap) (Q : Option Value → Heap → List Loc → Prop) : Prop :=
  MetFree l y (head1 (Jvm.Cond.code y bytes maxL ret :: ws) rm) (fun a U => a = as' ∧ Z.Warmed39 U.vm ∧ U.heap = h0) (fun _ _ _ _ _ => True) (fun _ U o U' => ∃ v L, o = .returned v ∧ Q v U'.heap L ∧ FrameEnd U o U' L rm.cells rm.slots)
theorem ownBody {y : MethodName} {bytes : ByteArray} {maxL : Nat} {ret : Option FieldType} {ws : List Jvm.Cond} {rm : Room} {as' : Array Value} {h0 : Heap} (hpl : plainFor y = true)
    (H : ∀ (p : Program) (e : Env) (s : State) (m : MethodId) (below : List Frame) (meth : Method) (c : Code) (T : State), p.tables.exec = Jvm.exec → c.code = bytes → c.maxLocals = maxL → meth.sig.returnType = ret → meth.locks = false → Z.Warmed39 s.vm → s.vm.findClass y.cls = some m.cls → meth.name = y.name →
      Stand p l e rm s m as' below meth c T [] 0 0 → T.heap = h0 → ownFin p e below (ownFE s rm.cells rm.slots) Q (T.setTop (entryFrame m as' maxL))) : ownMet l Z y bytes maxL ret ws rm as' h0 Q := by
  refine MetFree.of_bodySF hpl hisR ?_
  intro p e s m args below meth c s₁ Bd hml0 hP hK
  obtain ⟨rfl, hZ, hh⟩ := hP
  exact H p e s m below meth c s₁ Bd.exec Bd.bytes hml0 Bd.returns Bd.notSynchronized hZ (findClass_of_methodNamed Bd.named) (name_of_methodNamed Bd.named Bd.method).1 (Stand.of_body Bd) (by rw [← hh, Bd.state]; rfl)
theorem ownCallS {own : String} {index : Nat} {y : MethodName} {bytes : ByteArray} {maxL : Nat} {ret : Option FieldType} {rm : Room} {as' : Array Value} {Q' : Option Value → Heap → List Loc → Prop}
    (X : Stand p l e R s m args below meth c T locs cells slots) (hx : p.tables.exec = Jvm.exec) (hZ : Z.Warmed39 s.vm) (hown : s.vm.findClass own = some m.cls)
    (w1 : (Jvm.Cond.methodLink own index y).before a0 Z = true) (w2 : (Jvm.Cond.static y).before a0 Z = true) (w3 : (Jvm.Cond.initialized y.cls).before a0 Z = true) (w4 : (Jvm.Cond.code y bytes maxL ret).before a0 Z = true)
    (hy : y.cls ≠ "java/lang/invoke/MethodHandle" ∧ y.cls ≠ "java/lang/invoke/VarHandle") (eT : T.heap = h) (hM : ownMet l Z y bytes maxL ret [] rm as' h Q')
    {pc : Nat} {Ls : Array Slot} {st : List Value} (hsz : Ls.size = c.maxLocals) (argsL rest : List Value) (hlen : ∀ sig, parseMethodDescriptor y.desc = some sig → argsL.length = sig.parameters.length)
    (hst : st = argsL.reverse ++ rest) (has : argsL.toArray = as') (W : Nat) (hW : (rest.map fun v => v.category).sum = W) (hd : decode c.code pc = .ok (.invokestatic index, 3))
    (hfr : rm.frames + 1 ≤ R.frames) (hlo : W + (maxL + 11) + rm.locals ≤ R.locals) (hce : cells + rm.cells ≤ R.cells) (hsl : slots + rm.slots ≤ R.slots)
    (K : ∀ v T' L', Stand p l e R s m args below meth c T' (locs ++ L') (cells + rm.cells) (slots + rm.slots) → Q' v T'.heap L' → ownFin p e below F Q (T'.setTop (mkF m (pc + 3) Ls (v.toList ++ rest)))) :
    ownFin p e below F Q (T.setTop (mkF m pc Ls st)) := by
  obtain ⟨v, _, ⟨T2, L2, k2, n2⟩, -, X2, ⟨Lc2, hQ2, l2, y2, z2⟩, st2⟩ := Jvm.LawKit.callS X hx (y := y) hown (mvT hZ w1) (mvT hZ w2) (mvT hZ w3) (mvT hZ w4) hy (backOf (W := W) hM hZ w4 w3 hfr hlo) (g := mkF m pc Ls st) rfl hsz (argsL := argsL) (rest := rest) hlen hst (by show 2 * 0 + _ ≤ _; omega) hd (fun _ _ => ⟨has, eT, hce, hsl⟩)
  dsimp only [Pt.U, Pt.locs, Pt.cells, Pt.slots] at X2 l2 y2 z2 st2 hQ2
  subst l2 y2 z2
  exact ownVia st2 (K v T2 Lc2 X2 hQ2)
theorem ownCallN {own : String} {index : Nat} {y : MethodName} {bytes : ByteArray} {maxL : Nat} {rm : Room} {as' : Array Value} {Q' : Option Value → Heap → List Loc → Prop}
    (X : Stand p l e R s m args below meth c T locs cells slots) (hx : p.tables.exec = Jvm.exec) (hZ : Z.Warmed39 s.vm) (hown : s.vm.findClass own = some m.cls) (hy1 : y.name = "<init>")
    (w1 : (Jvm.Cond.methodLink own index y).before a0 Z = true) (w2 : (Jvm.Cond.instanceMethod y).before a0 Z = true) (w3 : (Jvm.Cond.initialized y.cls).before a0 Z = true) (w4 : (Jvm.Cond.code y bytes maxL none).before a0 Z = true)
    (hy : y.cls ≠ "java/lang/invoke/MethodHandle" ∧ y.cls ≠ "java/lang/invoke/VarHandle") (eT : T.heap = h) (hM : ownMet l Z y bytes maxL none [] rm as' h Q')
    {pc : Nat} {Ls : Array Slot} {st : List Value} (hsz : Ls.size = c.maxLocals) (a : Addr) (argsL rest : List Value) (hlen : ∀ sig, parseMethodDescriptor y.desc = some sig → argsL.length = sig.parameters.length)
    (hst : st = argsL.reverse ++ .ref a :: rest) (has : (Value.ref a :: argsL).toArray = as') (W : Nat) (hW : (rest.map fun v => v.category).sum = W) (hd : decode c.code pc = .ok (.invokespecial index, 3))
    (hfr : rm.frames + 1 ≤ R.frames) (hlo : W + (maxL + 11) + rm.locals ≤ R.locals) (hce : cells + rm.cells ≤ R.cells) (hsl : slots + rm.slots ≤ R.slots)
    (K : ∀ v T' L', Stand p l e R s m args below meth c T' (locs ++ L') (cells + rm.cells) (slots + rm.slots) → Q' v T'.heap L' → ownFin p e below F Q (T'.setTop (mkF m (pc + 3) Ls (v.toList ++ rest)))) :
    ownFin p e below F Q (T.setTop (mkF m pc Ls st)) := by
  obtain ⟨v, _, ⟨T2, L2, k2, n2⟩, -, X2, ⟨Lc2, hQ2, l2, y2, z2⟩, st2⟩ := X.specialBack hx (y := y) hy1 hown (mvT hZ w1) (mvT hZ w2) (mvT hZ w4) hy (backOf (W := W) hM hZ w4 w3 hfr hlo) (g := mkF m pc Ls st) rfl hsz (Steps.refl _) (a := a) (argsL := argsL) (rest := rest) hlen hst (by show 2 * 0 + _ ≤ _; omega) hd (fun _ _ => ⟨has, eT, hce, hsl⟩)
  dsimp only [Pt.U, Pt.locs, Pt.cells, Pt.slots] at X2 l2 y2 z2 st2 hQ2
  subst l2 y2 z2
  exact ownVia (fun _ k => st2.trans k) (K v T2 Lc2 X2 hQ2)
theorem ownCallV {own C' : String} {index : Nat} {y z : MethodName} {bytes : ByteArray} {maxL : Nat} {ret : Option FieldType} {rm : Room} {as' : Array Value} {Q' : Option Value → Heap → List Loc → Prop}
    (X : Stand p l e R s m args below meth c T locs cells slots) (hx : p.tables.exec = Jvm.exec) (hZ : Z.Warmed39 s.vm) (hown : s.vm.findClass own = some m.cls)
    (w1 : (Jvm.Cond.methodLink own index y).before a0 Z = true) (w2 : (Jvm.Cond.declares y).before a0 Z = true) (w5 : (Jvm.Cond.selects y.cls y y).before a0 Z = true) (w6 : (Jvm.Cond.selects C' y z).before a0 Z = true) (w7 : (Jvm.Cond.instanceMethod z).before a0 Z = true) (w3 : (Jvm.Cond.initialized z.cls).before a0 Z = true) (w4 : (Jvm.Cond.code z bytes maxL ret).before a0 Z = true)
    (hy : y.cls ≠ "java/lang/invoke/MethodHandle" ∧ y.cls ≠ "java/lang/invoke/VarHandle") (eT : T.heap = h) {a : Addr} (E : Exa Z h a C') (hM : ownMet l Z z bytes maxL ret [] rm as' h Q')
    {pc : Nat} {Ls : Array Slot} {st : List Value} (hsz : Ls.size = c.maxLocals) (argsL rest : List Value) (hlen : ∀ sig, parseMethodDescriptor y.desc = some sig → argsL.length = sig.parameters.length)
    (hst : st = argsL.reverse ++ .ref a :: rest) (has : (Value.ref a :: argsL).toArray = as') (W : Nat) (hW : (rest.map fun v => v.category).sum = W) (hd : decode c.code pc = .ok (.invokevirtual index, 3))
    (hfr : rm.frames + 1 ≤ R.frames) (hlo : W + (maxL + 11) + rm.locals ≤ R.locals) (hce : cells + rm.cells ≤ R.cells) (hsl : slots + rm.slots ≤ R.slots)
    (K : ∀ v T' L', Stand p l e R s m args below meth c T' (locs ++ L') (cells + rm.cells) (slots + rm.slots) → Q' v T'.heap L' → ownFin p e below F Q (T'.setTop (mkF m (pc + 3) Ls (v.toList ++ rest)))) :
    ownFin p e below F Q (T.setTop (mkF m pc Ls st)) := by
  obtain ⟨cq, kq, qa, qb, qc⟩ := isOf hZ eT E
  obtain ⟨v, _, ⟨T2, L2, k2, n2⟩, -, X2, ⟨Lc2, hQ2, l2, y2, z2⟩, st2⟩ := X.virtualBack hx (y := y) (z := z) hown (mvT hZ w1) (mvT hZ w2) (notFace_of_selects (args := #[]) (mvT hZ w5)) (mvT hZ w6) (mvT hZ w7) hy (backOf (W := W) hM hZ w4 w3 hfr hlo) qa qc (g := mkF m pc Ls st) rfl hsz (Steps.refl _) (argsL := argsL) (rest := rest) hlen hst (by show 2 * 0 + _ ≤ _; omega) hd (fun _ _ => ⟨has, eT, hce, hsl⟩)
  dsimp only [Pt.U, Pt.locs, Pt.cells, Pt.slots] at X2 l2 y2 z2 st2 hQ2
  subst l2 y2 z2
  exact ownVia (fun _ k => st2.trans k) (K v T2 Lc2 X2 hQ2)
theorem ownLen {a : Addr} {k : ClassId} {ty : FieldType} {z : Int32} {vs : List Value} {dv : Value} (X : Stand p l e R s m args below meth c T locs cells slots) (hx : p.tables.exec = Jvm.exec) (hZ : Z.Warmed39 s.vm) (eT : T.heap = h) (A : Arv Z h a k ty z vs dv) {pc : Nat} {Ls : Array Slot} {rest : List Value} (hd : decode c.code pc = .ok (.arraylength, 1))
    (K : ownFin p e below F Q (T.setTop (mkF m (pc + 1) Ls (.int z :: rest)))) : ownFin p e below F Q (T.setTop (mkF m pc Ls (.ref a :: rest))) := by
  obtain ⟨cl, Ar, -, Sz, Nz, -, -⟩ := A
  rw [← len_of Sz Nz] at K
  exact ownVia (fun t k => X.arraylength hx (by rw [eT]; exact Ar.1) (State.isArrayOf_alike hZ.alike Ar.2.1) (g := mkF m pc Ls (.ref a :: rest)) rfl rfl hd t k) K
theorem ownBaload {a : Addr} {k : ClassId} {z j : Int32} {vs : List Value} {dv v : Value} (X : Stand p l e R s m args below meth c T locs cells slots) (hx : p.tables.exec = Jvm.exec) (hZ : Z.Warmed39 s.vm) (eT : T.heap = h) (A : Arv Z h a k .byte z vs dv) (hj : ¬ j < 0 ∧ j < z) (hv : vs.getD j.toNatClampNeg dv = v) {pc : Nat} {Ls : Array Slot} {rest : List Value} (hd : decode c.code pc = .ok (.baload, 1))
    (K : ownFin p e below F Q (T.setTop (mkF m (pc + 1) Ls (v :: rest)))) : ownFin p e below F Q (T.setTop (mkF m pc Ls (.int j :: .ref a :: rest))) := by
  obtain ⟨cl, Ar, -, Sz, Nz, H, -⟩ := A
  have hin := inb_of Sz hj
  exact ownVia (fun t k => X.baloadBytes hx (by rw [eT]; exact Ar.1) (State.isArrayOf_alike hZ.alike Ar.2.1) Ar.2.2 hin (H.at hin hv) (g := mkF m pc Ls (.int j :: .ref a :: rest)) rfl rfl hd t k) K
theorem ownIaload {a : Addr} {k : ClassId} {z j : Int32} {vs : List Value} {dv v : Value} (X : Stand p l e R s m args below meth c T locs cells slots) (hx : p.tables.exec = Jvm.exec) (hZ : Z.Warmed39 s.vm) (eT : T.heap = h) (A : Arv Z h a k .int z vs dv) (hj : ¬ j < 0 ∧ j < z) (hv : vs.getD j.toNatClampNeg dv = v) {pc : Nat} {Ls : Array Slot} {rest : List Value} (hd : decode c.code pc = .ok (.iaload, 1))
    (K : ownFin p e below F Q (T.setTop (mkF m (pc + 1) Ls (v :: rest)))) : ownFin p e below F Q (T.setTop (mkF m pc Ls (.int j :: .ref a :: rest))) := by
  obtain ⟨cl, Ar, -, Sz, Nz, H, -⟩ := A
  have hin := inb_of Sz hj
  exact ownVia (fun t k => X.iaload hx (by rw [eT]; exact Ar.1) (State.isArrayOf_alike hZ.alike Ar.2.1) Ar.2.2 hin (H.at hin hv) (g := mkF m pc Ls (.int j :: .ref a :: rest)) rfl rfl hd t k) K
theorem ownLaload {a : Addr} {k : ClassId} {z j : Int32} {vs : List Value} {dv v : Value} (X : Stand p l e R s m args below meth c T locs cells slots) (hx : p.tables.exec = Jvm.exec) (hZ : Z.Warmed39 s.vm) (eT : T.heap = h) (A : Arv Z h a k .long z vs dv) (hj : ¬ j < 0 ∧ j < z) (hv : vs.getD j.toNatClampNeg dv = v) {pc : Nat} {Ls : Array Slot} {rest : List Value} (hd : decode c.code pc = .ok (.laload, 1))
    (K : ownFin p e below F Q (T.setTop (mkF m (pc + 1) Ls (v :: rest)))) : ownFin p e below F Q (T.setTop (mkF m pc Ls (.int j :: .ref a :: rest))) := by
  obtain ⟨cl, Ar, -, Sz, Nz, H, -⟩ := A
  have hin := inb_of Sz hj
  exact ownVia (fun t k => X.laload hx (by rw [eT]; exact Ar.1) (State.isArrayOf_alike hZ.alike Ar.2.1) Ar.2.2 hin (H.at hin hv) (g := mkF m pc Ls (.int j :: .ref a :: rest)) rfl rfl hd t k) K
theorem ownBastore {a : Addr} {k : ClassId} {z j x : Int32} {vs : List Value} {dv : Value} {n0 : Nat} (X : Stand p l e R s m args below meth c T locs cells slots) (hx : p.tables.exec = Jvm.exec) (hZ : Z.Warmed39 s.vm) (eT : T.heap = h) (A : Arv Z h a k .byte z vs dv) (hj : ¬ j < 0 ∧ j < z) (i : Nat) (hi : j.toNatClampNeg = i) (hl : i < vs.length) (N : Fr n0 locs) (ge : n0 ≤ a) {pc : Nat} {Ls : Array Slot} {rest : List Value} (hd : decode c.code pc = .ok (.bastore, 1))
    (K : ∀ T' h' L', Stand p l e R s m args below meth c T' L' cells slots → T'.heap = h' → Fr n0 L' → Wr h h' a i (.int (nar .byte x)) → Arv Z h' a k .byte z (vs.set i (.int (nar .byte x))) dv → ownFin p e below F Q (T'.setTop (mkF m (pc + 1) Ls rest))) :
    ownFin p e below F Q (T.setTop (mkF m pc Ls (.int x :: .int j :: .ref a :: rest))) := by
  obtain ⟨cl, Ar, q1, Sz, Nz, H, G⟩ := A
  obtain ⟨T', h', X', e', W, st⟩ := stB X hx hZ eT Ar (j := j) (x := x) (inb_of Sz hj) (g := mkF m pc Ls (.int x :: .int j :: .ref a :: rest)) rfl rfl hd
  have N' := Fr.snoc X' N ge
  have A' := Arv.set Ar q1 Sz Nz H G (fits_nar_byte x) W i hi hl
  rw [hi] at W
  exact ownVia st (K T' h' _ X' e' N' W A')
theorem ownIastore {a : Addr} {k : ClassId} {z j x : Int32} {vs : List Value} {dv : Value} {n0 : Nat} (X : Stand p l e R s m args below meth c T locs cells slots) (hx : p.tables.exec = Jvm.exec) (hZ : Z.Warmed39 s.vm) (eT : T.heap = h) (A : Arv Z h a k .int z vs dv) (hj : ¬ j < 0 ∧ j < z) (i : Nat) (hi : j.toNatClampNeg = i) (hl : i < vs.length) (N : Fr n0 locs) (ge : n0 ≤ a) {pc : Nat} {Ls : Array Slot} {rest : List Value} (hd : decode c.code pc = .ok (.iastore, 1))
    (K : ∀ T' h' L', Stand p l e R s m args below meth c T' L' cells slots → T'.heap = h' → Fr n0 L' → Wr h h' a i (.int x) → Arv Z h' a k .int z (vs.set i (.int x)) dv → ownFin p e below F Q (T'.setTop (mkF m (pc + 1) Ls rest))) :
    ownFin p e below F Q (T.setTop (mkF m pc Ls (.int x :: .int j :: .ref a :: rest))) := by
  obtain ⟨cl, Ar, q1, Sz, Nz, H, G⟩ := A
  obtain ⟨T', h', X', e', W, st⟩ := stI X hx hZ eT Ar (j := j) (x := x) (inb_of Sz hj) (g := mkF m pc Ls (.int x :: .int j :: .ref a :: rest)) rfl rfl hd
  have N' := Fr.snoc X' N ge
  have A' := Arv.set Ar q1 Sz Nz H G rfl W i hi hl
  rw [hi] at W
  exact ownVia st (K T' h' _ X' e' N' W A')
theorem ownLastore {a : Addr} {k : ClassId} {z j : Int32} {x : Int64} {vs : List Value} {dv : Value} {n0 : Nat} (X : Stand p l e R s m args below meth c T locs cells slots) (hx : p.tables.exec = Jvm.exec) (hZ : Z.Warmed39 s.vm) (eT : T.heap = h) (A : Arv Z h a k .long z vs dv) (hj : ¬ j < 0 ∧ j < z) (i : Nat) (hi : j.toNatClampNeg = i) (hl : i < vs.length) (N : Fr n0 locs) (ge : n0 ≤ a) {pc : Nat} {Ls : Array Slot} {rest : List Value} (hd : decode c.code pc = .ok (.lastore, 1))
    (K : ∀ T' h' L', Stand p l e R s m args below meth c T' L' cells slots → T'.heap = h' → Fr n0 L' → Wr h h' a i (.long x) → Arv Z h' a k .long z (vs.set i (.long x)) dv → ownFin p e below F Q (T'.setTop (mkF m (pc + 1) Ls rest))) :
    ownFin p e below F Q (T.setTop (mkF m pc Ls (.long x :: .int j :: .ref a :: rest))) := by
  obtain ⟨cl, Ar, q1, Sz, Nz, H, G⟩ := A
  obtain ⟨T', h', X', e', W, st⟩ := stJ X hx hZ eT Ar (j := j) (x := x) (inb_of Sz hj) (g := mkF m pc Ls (.long x :: .int j :: .ref a :: rest)) rfl rfl hd
  have N' := Fr.snoc X' N ge
  have A' := Arv.set Ar q1 Sz Nz H G rfl W i hi hl
  rw [hi] at W
  exact ownVia st (K T' h' _ X' e' N' W A')
theorem ownNewP {aty : ArrayType} {n : Int32} (X : Stand p l e R s m args below meth c T locs cells slots) (hx : p.tables.exec = Jvm.exec) (hZ : Z.Warmed39 s.vm) (w : (Jvm.Cond.arrayClass (newarray.typeOf aty)).before a0 Z = true) (eT : T.heap = h) (ad : String) (had : "[" ++ (newarray.typeOf aty).toString = ad) (hn : ¬ n < 0) (N : Nat) (hN : n.toNatClampNeg = N) (cap : Nat) (hcap : N ≤ cap) (hb : cap * 8 ≤ 536870912) (hc : cells + 1 ≤ R.cells) (hl : slots + cap ≤ R.slots)
    {pc : Nat} {Ls : Array Slot} {rest : List Value} (hd : decode c.code pc = .ok (.newarray aty, 2))
    (K : ∀ T' h' k a, a = h.size → Stand p l e R s m args below meth c T' locs (cells + 1) (slots + cap) → T'.heap = h' → Ext h h' → Arv Z h' a k (newarray.typeOf aty) n (List.replicate N (defaultValue (newarray.typeOf aty))) (defaultValue (newarray.typeOf aty)) → Exa Z h' a ad → ownFin p e below F Q (T'.setTop (mkF m (pc + 2) Ls (.ref a :: rest)))) :
    ownFin p e below F Q (T.setTop (mkF m pc Ls (.int n :: rest))) := by
  obtain ⟨T', h', k, X', e', E, A, Ex, st⟩ := newPE X hx hZ w eT (g := mkF m pc Ls (.int n :: rest)) rfl hd rfl hn (cap := cap) (by rw [hN]; exact hcap) hb hc hl had
  exact ownVia st (K T' h' k _ rfl X' e' E ((Arv.new A hn).pad (pad_rep [] _ _)) Ex)
theorem ownClone {own : String} {index : Nat} {a : Addr} {k : ClassId} {ty : FieldType} {z : Int32} {vs : List Value} {dv : Value} {ad : String} (X : Stand p l e R s m args below meth c T locs cells slots) (hx : p.tables.exec = Jvm.exec) (hZ : Z.Warmed39 s.vm) (hown : s.vm.findClass own = some m.cls)
    (w1 : (Jvm.Cond.methodLink own index ⟨ad, "clone", "()Ljava/lang/Object;"⟩).before a0 Z = true) (w2 : (Jvm.Cond.sameMethod ad "java/lang/Object" "clone" "()Ljava/lang/Object;").before a0 Z = true) (w3 : (Jvm.Cond.native ⟨"java/lang/Object", "clone", "()Ljava/lang/Object;"⟩).before a0 Z = true)
    (w4 : (Jvm.Cond.instanceMethod ⟨"java/lang/Object", "clone", "()Ljava/lang/Object;"⟩).before a0 Z = true) (w5 : (Jvm.Cond.selects ad ⟨ad, "clone", "()Ljava/lang/Object;"⟩ ⟨"java/lang/Object", "clone", "()Ljava/lang/Object;"⟩).before a0 Z = true) (w6 : (Jvm.Cond.castable ad "java/lang/Cloneable").before a0 Z = true)
    (eT : T.heap = h) (A : Arv Z h a k ty z vs dv) (E : Exa Z h a ad) {pc : Nat} {Ls : Array Slot} {rest : List Value} (hsz : Ls.size = c.maxLocals) (hd : decode c.code pc = .ok (.invokevirtual index, 3)) (hf : 1 ≤ R.frames) (W : Nat) (hW : (rest.map fun v => v.category).sum = W) (hlo : W + 14 ≤ R.locals) (cap : Nat) (hcap : z.toNatClampNeg ≤ cap) (hc : cells + 1 ≤ R.cells) (hsl : slots + cap ≤ R.slots)
    (K : ∀ T' h' b, b = h.size → Stand p l e R s m args below meth c T' locs (cells + 1) (slots + cap) → T'.heap = h' → Ext h h' → Arv Z h' b k ty z vs dv → Exa Z h' b ad → ownFin p e below F Q (T'.setTop (mkF m (pc + 3) Ls (.ref b :: rest)))) :
    ownFin p e below F Q (T.setTop (mkF m pc Ls (.ref a :: rest))) := by
  obtain ⟨T', h', X', e', Ex, A', E', st⟩ := cloneH X hx hZ hown w1 w2 w3 w4 w5 w6 eT A.arh E (g := mkF m pc Ls (.ref a :: rest)) rfl hsz rfl hd hf (W := W) (by show 2 * 0 + _ ≤ _; omega) hlo hcap hc hsl
  exact ownVia st (K T' h' _ rfl X' e' Ex A' E')
theorem ownCallP {own : String} {index : Nat} {y y2 : MethodName} {bytes : ByteArray} {maxL : Nat} {ret : Option FieldType} {rm : Room} {as' : Array Value} {Q' : Option Value → Heap → List Loc → Prop} {C' : String}
    (X : Stand p l e R s m args below meth c T locs cells slots) (hx : p.tables.exec = Jvm.exec) (hZ : Z.Warmed39 s.vm) (hown : s.vm.findClass own = some m.cls)
    (w1 : (Jvm.Cond.methodLink own index y).before a0 Z = true) (w2 : (Jvm.Cond.privateMethod y).before a0 Z = true) (w5 : (Jvm.Cond.selects y2.cls y2 y2).before a0 Z = true) (hc2 : y2.cls = y.cls) (w7 : (Jvm.Cond.instanceMethod y).before a0 Z = true) (w3 : (Jvm.Cond.initialized y.cls).before a0 Z = true) (w4 : (Jvm.Cond.code y bytes maxL ret).before a0 Z = true)
    (hy : y.cls ≠ "java/lang/invoke/MethodHandle" ∧ y.cls ≠ "java/lang/invoke/VarHandle") (eT : T.heap = h) {a : Addr} (E : Exa Z h a C') (hM : ownMet l Z y bytes maxL ret [] rm as' h Q')
    {pc : Nat} {Ls : Array Slot} {st : List Value} (hsz : Ls.size = c.maxLocals) (argsL rest : List Value) (hlen : ∀ sig, parseMethodDescriptor y.desc = some sig → argsL.length = sig.parameters.length)
    (hst : st = argsL.reverse ++ .ref a :: rest) (has : (Value.ref a :: argsL).toArray = as') (W : Nat) (hW : (rest.map fun v => v.category).sum = W) (hd : decode c.code pc = .ok (.invokevirtual index, 3))
    (hfr : rm.frames + 1 ≤ R.frames) (hlo : W + (maxL + 11) + rm.locals ≤ R.locals) (hce : cells + rm.cells ≤ R.cells) (hsl : slots + rm.slots ≤ R.slots)
    (K : ∀ v T' L', Stand p l e R s m args below meth c T' (locs ++ L') (cells + rm.cells) (slots + rm.slots) → Q' v T'.heap L' → ownFin p e below F Q (T'.setTop (mkF m (pc + 3) Ls (v.toList ++ rest)))) :
    ownFin p e below F Q (T.setTop (mkF m pc Ls st)) := by
  have hpriv : s.PrivateAt y := Cond.privateMethod_at (mvP hZ w2 (args := #[]))
  have hsel2 : (Jvm.Cond.selects y2.cls y2 y2).before args s = true := mvT hZ w5
  obtain ⟨c2, r2, m2, q1, q2, q3, q4, kP, hkP, hkPi⟩ := Cond.selects_spec hsel2
  have hf2 := findClass_of_methodNamed q3
  rw [hc2] at hf2
  have hsel : (Jvm.Cond.selects y.cls y y).before args s = true := selects_self_of_private hf2 hkP hkPi hpriv (mvT hZ w7) hy
  obtain ⟨cq, qc1, qc2⟩ := E.cell
  obtain ⟨v, _, ⟨T2, L2, k2, n2⟩, -, X2, ⟨Lc2, hQ2, l2, y2', z2⟩, st2⟩ := X.privateBack hx (y := y) hown (mvT hZ w1) (mvT hZ w7) hsel hpriv (mvT hZ w4) hy (backOf (W := W) hM hZ w4 w3 hfr hlo) (g := mkF m pc Ls st) rfl hsz (Steps.refl _) (a := a) (by rw [eT]; exact qc1) qc2 (argsL := argsL) (rest := rest) hlen hst (by show 2 * 0 + _ ≤ _; omega) hd (fun _ _ => ⟨has, eT, hce, hsl⟩)
  dsimp only [Pt.U, Pt.locs, Pt.cells, Pt.slots] at X2 l2 y2' z2 st2 hQ2
  subst l2 y2' z2
  exact ownVia (fun _ k => st2.trans k) (K v T2 Lc2 X2 hQ2)
theorem ownCast {own K' : String} {index : Nat} {a : Addr} (X : Stand p l e R s m args below meth c T locs cells slots) (hx : p.tables.exec = Jvm.exec) (hZ : Z.Warmed39 s.vm) (hown : s.vm.findClass own = some m.cls) (w : (Jvm.Cond.classLink own index K').before a0 Z = true) (eT : T.heap = h) (FI : Ins Z h a K' true) {pc : Nat} {Ls : Array Slot} {rest : List Value} (hd : decode c.code pc = .ok (.checkcast index, 3))
    (K : ∀ T', Stand p l e R s m args below meth c T' locs cells slots → T'.heap = h → ownFin p e below F Q (T'.setTop (mkF m (pc + 3) Ls (.ref a :: rest)))) : ownFin p e below F Q (T.setTop (mkF m pc Ls (.ref a :: rest))) := by
  obtain ⟨T', X', e', st⟩ := castY X hx hZ hown w eT FI (g := mkF m pc Ls (.ref a :: rest)) rfl rfl hd
  exact ownVia st (K T' X' e')
theorem own_clamp {j : Int32} {n : Nat} (h : j.toInt = (n : Int)) : j.toNatClampNeg = n := by
  show j.toInt.toNat = n
  rw [h]; rfl
theorem own_nneg {j : Int32} {n : Nat} (h : j.toInt = (n : Int)) : ¬ j < 0 := fun q => by
  have := Int32.lt_iff_toInt_lt.mp q
  have k0 : (0 : Int32).toInt = 0 := by decide
  omega
theorem ownCopy {own : String} {index : Nat} {a b : Addr} {k k' : ClassId} {ty : FieldType} {z z' sp dp nn : Int32} {vs vd : List Value} {dv dd : Value} {n0 : Nat} (X : Stand p l e R s m args below meth c T locs cells slots) (hx : p.tables.exec = Jvm.exec) (hZ : Z.Warmed39 s.vm) (hown : s.vm.findClass own = some m.cls)
    (w1 : (Jvm.Cond.methodLink own index Jvm.Stand.acN).before a0 Z = true) (w2 : (Jvm.Cond.native Jvm.Stand.acN).before a0 Z = true) (w3 : (Jvm.Cond.static Jvm.Stand.acN).before a0 Z = true) (w4 : (Jvm.Cond.initialized "java/lang/System").before a0 Z = true) (eT : T.heap = h)
    (A : Arv Z h a k ty z vs dv) (B : Arv Z h b k' ty z' vd dd) (hty : refKind ty = false) (i j n lz lz' : Nat) (hi : sp.toInt = (i : Int)) (hj : dp.toInt = (j : Int)) (hn : nn.toInt = (n : Int)) (hz : z.toInt = (lz : Int)) (hz' : z'.toInt = (lz' : Int)) (h4 : i + n ≤ lz) (h5 : j + n ≤ lz') (hl : j + n ≤ vd.length) (N : Fr n0 locs) (ge : n0 ≤ b)
    {pc : Nat} {Ls : Array Slot} {rest : List Value} (hsz : Ls.size = c.maxLocals) (hd : decode c.code pc = .ok (.invokestatic index, 3)) (hf : 1 ≤ R.frames) (W : Nat) (hW : (rest.map fun v => v.category).sum = W) (hlo : W + (nativeFrameWords "java/lang/System" "arraycopy" 5 + 11) ≤ R.locals)
    (K : ∀ T' h' L', Stand p l e R s m args below meth c T' L' cells slots → T'.heap = h' → Fr n0 L' → Keep h h' [b] → Arv Z h' b k' ty z' (vd.take j ++ ((List.range n).map fun x => vs.getD (i + x) dv) ++ vd.drop (j + n)) dd → ownFin p e below F Q (T'.setTop (mkF m (pc + 3) Ls rest))) :
    ownFin p e below F Q (T.setTop (mkF m pc Ls (.int nn :: .int dp :: .ref b :: .int sp :: .ref a :: rest))) := by
  have e1 := own_clamp hi
  have e2 := own_clamp hj
  have e3 := own_clamp hn
  have e4 := own_clamp hz
  have e5 := own_clamp hz'
  obtain ⟨T', h', L', X', e', N', K', B', st⟩ := cpA X hx hZ hown w1 w2 w3 w4 eT A B (Or.inl ⟨rfl, hty⟩) (own_nneg hi) (own_nneg hj) (own_nneg hn) (by omega) (by omega) rfl (by omega) N ge (g := mkF m pc Ls (.int nn :: .int dp :: .ref b :: .int sp :: .ref a :: rest)) rfl hsz rfl hd hf (W := W) (by show 2 * 0 + _ ≤ _; omega) hlo
  rw [e1, e2, e3] at B'
  exact ownVia st (K T' h' L' X' e' N' K' B')
theorem own_lti {a b : Int32} {x y : Int} (ha : a.toInt = x) (hb : b.toInt = y) : a < b ↔ x < y := by rw [Int32.lt_iff_toInt_lt, ha, hb]
theorem own_sub {a b : Int32} {i j : Nat} (ha : a.toInt = (i : Int)) (hb : b.toInt = (j : Int)) (h : j ≤ i) : (a - b).toInt = ((i - j : Nat) : Int) := by
  have h1 := c_isub a b
  have h2 := rng32 (a - b)
  have h3 := rng32 a
  have h4 := rng32 b
  omega
theorem own_add {a b : Int32} {i j : Nat} (ha : a.toInt = (i : Int)) (hb : b.toInt = (j : Int)) (h : i + j < 2147483648) : (a + b).toInt = ((i + j : Nat) : Int) := by
  have h1 := c_iadd a b
  have h2 := rng32 (a + b)
  omega
theorem own_nlt {a b : Int32} {i j : Int} (ha : a.toInt = i) (hb : b.toInt = j) (h : j ≤ i) : ¬ a < b := fun q => by
  have := (own_lti ha hb).mp q
  omega
theorem own_enum {args : Array Value} {C n d K : String} (hx : (Jvm.Cond.exactly (.static C n d) K).value args s none s [] = some true) (wi : (Jvm.Cond.initialized C).before args s = true) (wl : (Jvm.Cond.laysStatic C n d).before args s = true) :
    ∃ a, (Term.static C n d).eval args s none [] s = some (.ref a) ∧ Sta s s.heap C n d (.ref a) ∧ Exa s s.heap a K := by
  obtain ⟨a, ev⟩ := exa_v hx
  exact ⟨a, ev, Sta.start ev (Or.inr ⟨wi, wl⟩), Exa.start ev hx⟩
theorem own_eqv {args : Array Value} {t : Term} {k : Int32} (hf : (Jvm.Cond.eq t (.int k)).value args s none s [] = some true) : t.eval args s none [] s = some (.int k) := by
  cases hv : t.eval args s none [] s with
  | none => simp [Cond.value, hv] at hf
  | some v =>
    cases v <;> simp [Cond.value, hv, Term.eval] at hf
    rw [hf]
theorem own_efld {args : Array Value} {t : Term} {a : Addr} {C n d : String} {k : Int32} (ev : t.eval args s none [] s = some (.ref a)) (hf : (Jvm.Cond.eq (.field t C n d) (.int k)).value args s none s [] = some true) : Fld s s.heap a C n d (.int k) :=
  Fld.start ((fld_at ev).symm.trans (own_eqv hf))
theorem own_iff_f {A B P : Prop} (hA : ¬ A) (h : P ↔ A ∨ B) : P ↔ B := by simpa [hA] using h
theorem own_iff_t {A B P : Prop} (hA : A) (h : P ↔ A ∨ B) : P := h.mpr (Or.inl hA)
theorem own_ref_ne {a b : Addr} (h : a ≠ b) : ¬ (Value.ref a) = .ref b := fun q => h (by cases q; rfl)
theorem own_sz {n0 : Nat} {h' : Heap} (q : n0 ≤ h.size) (E : Ext h h') : n0 ≤ h'.size := Nat.le_trans q E.1
theorem own_szW {n0 : Nat} {h' : Heap} {a : Addr} {sl : Nat} {v : Value} (q : n0 ≤ h.size) (W : Wr h h' a sl v) : n0 ≤ h'.size := by rw [W.size]; exact q
theorem own_eqi {a b : Int32} {x y : Int} (ha : a.toInt = x) (hb : b.toInt = y) : a = b ↔ x = y := by rw [← Int32.toInt_inj, ha, hb]
theorem own_ltl {a b : Int64} {x y : Int} (ha : a.toInt = x) (hb : b.toInt = y) : a < b ↔ x < y := by rw [Int64.lt_iff_toInt_lt, ha, hb]
theorem own_eql {a b : Int64} {x y : Int} (ha : a.toInt = x) (hb : b.toInt = y) : a = b ↔ x = y := by rw [← Int64.toInt_inj, ha, hb]
theorem own_getD_map {α β : Type} (f : α → β) (d : α) (xs : List α) (n : Nat) : (xs.map f).getD n (f d) = f (xs.getD n d) := by
  simp only [List.getD_eq_getElem?_getD, List.getElem?_map]
  cases xs[n]? <;> rfl
theorem own_idx {j z : Int32} {zi : Int} (hz : z.toInt = zi) (h1 : 0 ≤ j.toInt) (h2 : j.toInt < zi) : ¬ j < 0 ∧ j < z := ⟨fun q => by have := (own_lti rfl (by decide : (0 : Int32).toInt = 0)).mp q; omega, Int32.lt_iff_toInt_lt.mpr (by rw [hz]; exact h2)⟩
end Own
def own_u (x : Int64) (k : Int32) : Int64 := ((x.toUInt64 >>> (k &&& 0x3f).toInt64.toUInt64).toInt64)
def own_y (q : Int64) (k : Int32) : Int32 := (own_u q k).toInt32.toInt8.toInt32
def own_y0 (q : Int64) : Int32 := q.toInt32.toInt8.toInt32
def own_ob (q : Int64) : Nat → List Int32
  | 1 => [nar .byte (own_y0 q)]
  | 2 => [nar .byte (own_y q 8), nar .byte (own_y0 q)]
  | 3 => [nar .byte (own_y q 16), nar .byte (own_y q 8), nar .byte (own_y0 q)]
  | 4 => [nar .byte (own_y q 24), nar .byte (own_y q 16), nar .byte (own_y q 8), nar .byte (own_y0 q)]
  | 5 => [nar .byte (own_y q 32), nar .byte (own_y q 24), nar .byte (own_y q 16), nar .byte (own_y q 8), nar .byte (own_y0 q)]
  | 6 => [nar .byte (own_y q 40), nar .byte (own_y q 32), nar .byte (own_y q 24), nar .byte (own_y q 16), nar .byte (own_y q 8), nar .byte (own_y0 q)]
  | 7 => [nar .byte (own_y q 48), nar .byte (own_y q 40), nar .byte (own_y q 32), nar .byte (own_y q 24), nar .byte (own_y q 16), nar .byte (own_y q 8), nar .byte (own_y0 q)]
  | 8 => [nar .byte (own_y q 56), nar .byte (own_y q 48), nar .byte (own_y q 40), nar .byte (own_y q 32), nar .byte (own_y q 24), nar .byte (own_y q 16), nar .byte (own_y q 8), nar .byte (own_y0 q)]
  | _ => []
def own_ns (acc : Int64) (b : Int32) : Int64 := (acc <<< ((8 : Int32) &&& 0x3f).toInt64) ||| (b &&& (255 : Int32)).toInt64
def own_num (bs : List Int32) : Int64 := bs.foldl own_ns 0
theorem own_num_succ {bs : List Int32} {i : Nat} (h : i < bs.length) : own_num (bs.take (i + 1)) = own_ns (own_num (bs.take i)) (bs.getD i 0) := by
  have e : bs.take (i + 1) = bs.take i ++ [bs.getD i 0] := by
    rw [List.take_add_one, List.getElem?_eq_getElem h, List.getD_eq_getElem?_getD, List.getElem?_eq_getElem h]
    rfl
  rw [e, own_num, List.foldl_append]
  rfl
theorem own_eq64 {x y : Int64} (h : (x.toInt - y.toInt) % 18446744073709551616 = 0) : x = y := by
  have a := rng64 x
  have b := rng64 y
  exact Int64.toInt_inj.mp (by omega)
theorem own_and1 (q : Int64) : q &&& (-1 : Int64) = q := by
  apply Int64.toBitVec_inj.mp
  rw [Int64.toBitVec_and]
  show q.toBitVec &&& (BitVec.allOnes 64) = _
  rw [BitVec.and_allOnes]
theorem own_st (a : Int64) (A : Int) (b : Int32) (hA : (a.toInt - A) % 18446744073709551616 = 0) (u : Int) (hu : (b &&& (255 : Int32)).toInt = u ∧ 0 ≤ u ∧ u < 256) : ((own_ns a b).toInt - (A * 256 + u)) % 18446744073709551616 = 0 := by
  have h1 := c_lshl a 8 8 (by decide)
  have h2 := c_i2l (b &&& (255 : Int32))
  have h3 := c_orL (a <<< ((8 : Int32) &&& 0x3f).toInt64) (b &&& (255 : Int32)).toInt64 8 (by decide) 256 (by decide) (by omega) (by omega) (by omega)
  unfold own_ns
  omega
def own_Q (q : Int64) : Nat → Int
  | 0 => q.toInt % 18446744073709551616
  | k + 1 => own_Q q k / 256
theorem own_Qd (q : Int64) (k : Nat) : own_Q q k = (q.toInt % 18446744073709551616) / (2 ^ (8 * k) : Nat) := by
  induction k with
  | zero => simp [own_Q]
  | succ k ih =>
    show own_Q q k / 256 = _
    rw [ih, Int.ediv_ediv_of_nonneg (Int.natCast_nonneg _)]
    congr 1
    have : 2 ^ (8 * (k + 1)) = 2 ^ (8 * k) * 256 := by rw [Nat.mul_add, Nat.pow_add]
    rw [this]
    rfl
theorem own_ub (y : Int32) (x : Int64) (D : Int) (hx : x.toInt = D) (hy : y = x.toInt32.toInt8.toInt32) : ((nar .byte y) &&& (255 : Int32)).toInt = D % 256 ∧ 0 ≤ D % 256 ∧ D % 256 < 256 := by
  have e : nar .byte y = y.toInt8.toInt32 := rfl
  have h1 := c_l2i x
  have h2 := c_i2b x.toInt32
  have h3 := c_i2b y
  have h4 := c_mask (nar .byte y) 255 8 (by decide) (by decide)
  rw [e] at h4 ⊢
  rw [← hy] at h2
  omega
theorem own_uy0 (q : Int64) : ((nar .byte (own_y0 q)) &&& (255 : Int32)).toInt = own_Q q 0 % 256 ∧ 0 ≤ own_Q q 0 % 256 ∧ own_Q q 0 % 256 < 256 := by
  have h := own_ub (own_y0 q) q _ rfl rfl
  have e : own_Q q 0 = q.toInt % 18446744073709551616 := rfl
  omega
theorem own_uy1 (q : Int64) : ((nar .byte (own_y q 8)) &&& (255 : Int32)).toInt = own_Q q 1 % 256 ∧ 0 ≤ own_Q q 1 % 256 ∧ own_Q q 1 % 256 < 256 :=
  own_ub (own_y q 8) (own_u q 8) _ ((c_lushr q 8 8 (by decide) (by decide)).trans (own_Qd q 1).symm) rfl
theorem own_uy2 (q : Int64) : ((nar .byte (own_y q 16)) &&& (255 : Int32)).toInt = own_Q q 2 % 256 ∧ 0 ≤ own_Q q 2 % 256 ∧ own_Q q 2 % 256 < 256 :=
  own_ub (own_y q 16) (own_u q 16) _ ((c_lushr q 16 16 (by decide) (by decide)).trans (own_Qd q 2).symm) rfl
theorem own_uy3 (q : Int64) : ((nar .byte (own_y q 24)) &&& (255 : Int32)).toInt = own_Q q 3 % 256 ∧ 0 ≤ own_Q q 3 % 256 ∧ own_Q q 3 % 256 < 256 :=
  own_ub (own_y q 24) (own_u q 24) _ ((c_lushr q 24 24 (by decide) (by decide)).trans (own_Qd q 3).symm) rfl
theorem own_uy4 (q : Int64) : ((nar .byte (own_y q 32)) &&& (255 : Int32)).toInt = own_Q q 4 % 256 ∧ 0 ≤ own_Q q 4 % 256 ∧ own_Q q 4 % 256 < 256 :=
  own_ub (own_y q 32) (own_u q 32) _ ((c_lushr q 32 32 (by decide) (by decide)).trans (own_Qd q 4).symm) rfl
theorem own_uy5 (q : Int64) : ((nar .byte (own_y q 40)) &&& (255 : Int32)).toInt = own_Q q 5 % 256 ∧ 0 ≤ own_Q q 5 % 256 ∧ own_Q q 5 % 256 < 256 :=
  own_ub (own_y q 40) (own_u q 40) _ ((c_lushr q 40 40 (by decide) (by decide)).trans (own_Qd q 5).symm) rfl
theorem own_uy6 (q : Int64) : ((nar .byte (own_y q 48)) &&& (255 : Int32)).toInt = own_Q q 6 % 256 ∧ 0 ≤ own_Q q 6 % 256 ∧ own_Q q 6 % 256 < 256 :=
  own_ub (own_y q 48) (own_u q 48) _ ((c_lushr q 48 48 (by decide) (by decide)).trans (own_Qd q 6).symm) rfl
theorem own_uy7 (q : Int64) : ((nar .byte (own_y q 56)) &&& (255 : Int32)).toInt = own_Q q 7 % 256 ∧ 0 ≤ own_Q q 7 % 256 ∧ own_Q q 7 % 256 < 256 :=
  own_ub (own_y q 56) (own_u q 56) _ ((c_lushr q 56 56 (by decide) (by decide)).trans (own_Qd q 7).symm) rfl
theorem own_dv (q : Int64) : own_Q q 0 = q.toInt % 18446744073709551616 ∧ own_Q q 1 = own_Q q 0 / 256 ∧ own_Q q 2 = own_Q q 1 / 256 ∧ own_Q q 3 = own_Q q 2 / 256 ∧ own_Q q 4 = own_Q q 3 / 256 ∧ own_Q q 5 = own_Q q 4 / 256 ∧ own_Q q 6 = own_Q q 5 / 256 ∧ own_Q q 7 = own_Q q 6 / 256 := ⟨rfl, rfl, rfl, rfl, rfl, rfl, rfl, rfl⟩
theorem own_fin1 (q : Int64) : own_num (own_ob q 1) = q &&& (255 : Int64) := by
  have u0 := own_uy0 q
  have s0 := own_st (0 : Int64) 0 (nar .byte (own_y0 q)) (by decide) _ u0
  have sz : ((own_num (own_ob q 1)).toInt - (0 * 256 + own_Q q 0 % 256)) % 18446744073709551616 = 0 := s0
  clear s0
  have v := own_dv q
  have m := c_maskL q 255 8 (by decide) (by decide)
  apply own_eq64
  generalize (own_num (own_ob q 1)).toInt = X at *
  omega
theorem own_fin2 (q : Int64) : own_num (own_ob q 2) = q &&& (65535 : Int64) := by
  have u1 := own_uy1 q
  have u0 := own_uy0 q
  have s0 := own_st (0 : Int64) 0 (nar .byte (own_y q 8)) (by decide) _ u1
  have s1 := own_st _ _ (nar .byte (own_y0 q)) s0 _ u0
  have sz : ((own_num (own_ob q 2)).toInt - ((0 * 256 + own_Q q 1 % 256) * 256 + own_Q q 0 % 256)) % 18446744073709551616 = 0 := s1
  clear s0 s1
  have v := own_dv q
  have m := c_maskL q 65535 16 (by decide) (by decide)
  apply own_eq64
  generalize (own_num (own_ob q 2)).toInt = X at *
  omega
theorem own_fin3 (q : Int64) : own_num (own_ob q 3) = q &&& (16777215 : Int64) := by
  have u2 := own_uy2 q
  have u1 := own_uy1 q
  have u0 := own_uy0 q
  have s0 := own_st (0 : Int64) 0 (nar .byte (own_y q 16)) (by decide) _ u2
  have s1 := own_st _ _ (nar .byte (own_y q 8)) s0 _ u1
  have s2 := own_st _ _ (nar .byte (own_y0 q)) s1 _ u0
  have sz : ((own_num (own_ob q 3)).toInt - (((0 * 256 + own_Q q 2 % 256) * 256 + own_Q q 1 % 256) * 256 + own_Q q 0 % 256)) % 18446744073709551616 = 0 := s2
  clear s0 s1 s2
  have v := own_dv q
  have m := c_maskL q 16777215 24 (by decide) (by decide)
  apply own_eq64
  generalize (own_num (own_ob q 3)).toInt = X at *
  omega
theorem own_fin4 (q : Int64) : own_num (own_ob q 4) = q &&& (4294967295 : Int64) := by
  have u3 := own_uy3 q
  have u2 := own_uy2 q
  have u1 := own_uy1 q
  have u0 := own_uy0 q
  have s0 := own_st (0 : Int64) 0 (nar .byte (own_y q 24)) (by decide) _ u3
  have s1 := own_st _ _ (nar .byte (own_y q 16)) s0 _ u2
  have s2 := own_st _ _ (nar .byte (own_y q 8)) s1 _ u1
  have s3 := own_st _ _ (nar .byte (own_y0 q)) s2 _ u0
  have sz : ((own_num (own_ob q 4)).toInt - ((((0 * 256 + own_Q q 3 % 256) * 256 + own_Q q 2 % 256) * 256 + own_Q q 1 % 256) * 256 + own_Q q 0 % 256)) % 18446744073709551616 = 0 := s3
  clear s0 s1 s2 s3
  have v := own_dv q
  have m := c_maskL q 4294967295 32 (by decide) (by decide)
  apply own_eq64
  generalize (own_num (own_ob q 4)).toInt = X at *
  omega
theorem own_fin5 (q : Int64) : own_num (own_ob q 5) = q &&& (1099511627775 : Int64) := by
  have u4 := own_uy4 q
  have u3 := own_uy3 q
  have u2 := own_uy2 q
  have u1 := own_uy1 q
  have u0 := own_uy0 q
  have s0 := own_st (0 : Int64) 0 (nar .byte (own_y q 32)) (by decide) _ u4
  have s1 := own_st _ _ (nar .byte (own_y q 24)) s0 _ u3
  have s2 := own_st _ _ (nar .byte (own_y q 16)) s1 _ u2
  have s3 := own_st _ _ (nar .byte (own_y q 8)) s2 _ u1
  have s4 := own_st _ _ (nar .byte (own_y0 q)) s3 _ u0
  have sz : ((own_num (own_ob q 5)).toInt - (((((0 * 256 + own_Q q 4 % 256) * 256 + own_Q q 3 % 256) * 256 + own_Q q 2 % 256) * 256 + own_Q q 1 % 256) * 256 + own_Q q 0 % 256)) % 18446744073709551616 = 0 := s4
  clear s0 s1 s2 s3 s4
  have v := own_dv q
  have m := c_maskL q 1099511627775 40 (by decide) (by decide)
  apply own_eq64
  generalize (own_num (own_ob q 5)).toInt = X at *
  omega
theorem own_fin6 (q : Int64) : own_num (own_ob q 6) = q &&& (281474976710655 : Int64) := by
  have u5 := own_uy5 q
  have u4 := own_uy4 q
  have u3 := own_uy3 q
  have u2 := own_uy2 q
  have u1 := own_uy1 q
  have u0 := own_uy0 q
  have s0 := own_st (0 : Int64) 0 (nar .byte (own_y q 40)) (by decide) _ u5
  have s1 := own_st _ _ (nar .byte (own_y q 32)) s0 _ u4
  have s2 := own_st _ _ (nar .byte (own_y q 24)) s1 _ u3
  have s3 := own_st _ _ (nar .byte (own_y q 16)) s2 _ u2
  have s4 := own_st _ _ (nar .byte (own_y q 8)) s3 _ u1
  have s5 := own_st _ _ (nar .byte (own_y0 q)) s4 _ u0
  have sz : ((own_num (own_ob q 6)).toInt - ((((((0 * 256 + own_Q q 5 % 256) * 256 + own_Q q 4 % 256) * 256 + own_Q q 3 % 256) * 256 + own_Q q 2 % 256) * 256 + own_Q q 1 % 256) * 256 + own_Q q 0 % 256)) % 18446744073709551616 = 0 := s5
  clear s0 s1 s2 s3 s4 s5
  have v := own_dv q
  have m := c_maskL q 281474976710655 48 (by decide) (by decide)
  apply own_eq64
  generalize (own_num (own_ob q 6)).toInt = X at *
  omega
theorem own_fin7 (q : Int64) : own_num (own_ob q 7) = q &&& (72057594037927935 : Int64) := by
  have u6 := own_uy6 q
  have u5 := own_uy5 q
  have u4 := own_uy4 q
  have u3 := own_uy3 q
  have u2 := own_uy2 q
  have u1 := own_uy1 q
  have u0 := own_uy0 q
  have s0 := own_st (0 : Int64) 0 (nar .byte (own_y q 48)) (by decide) _ u6
  have s1 := own_st _ _ (nar .byte (own_y q 40)) s0 _ u5
  have s2 := own_st _ _ (nar .byte (own_y q 32)) s1 _ u4
  have s3 := own_st _ _ (nar .byte (own_y q 24)) s2 _ u3
  have s4 := own_st _ _ (nar .byte (own_y q 16)) s3 _ u2
  have s5 := own_st _ _ (nar .byte (own_y q 8)) s4 _ u1
  have s6 := own_st _ _ (nar .byte (own_y0 q)) s5 _ u0
  have sz : ((own_num (own_ob q 7)).toInt - (((((((0 * 256 + own_Q q 6 % 256) * 256 + own_Q q 5 % 256) * 256 + own_Q q 4 % 256) * 256 + own_Q q 3 % 256) * 256 + own_Q q 2 % 256) * 256 + own_Q q 1 % 256) * 256 + own_Q q 0 % 256)) % 18446744073709551616 = 0 := s6
  clear s0 s1 s2 s3 s4 s5 s6
  have v := own_dv q
  have m := c_maskL q 72057594037927935 56 (by decide) (by decide)
  apply own_eq64
  generalize (own_num (own_ob q 7)).toInt = X at *
  omega
theorem own_fin8 (q : Int64) : own_num (own_ob q 8) = q := by
  have u7 := own_uy7 q
  have u6 := own_uy6 q
  have u5 := own_uy5 q
  have u4 := own_uy4 q
  have u3 := own_uy3 q
  have u2 := own_uy2 q
  have u1 := own_uy1 q
  have u0 := own_uy0 q
  have s0 := own_st (0 : Int64) 0 (nar .byte (own_y q 56)) (by decide) _ u7
  have s1 := own_st _ _ (nar .byte (own_y q 48)) s0 _ u6
  have s2 := own_st _ _ (nar .byte (own_y q 40)) s1 _ u5
  have s3 := own_st _ _ (nar .byte (own_y q 32)) s2 _ u4
  have s4 := own_st _ _ (nar .byte (own_y q 24)) s3 _ u3
  have s5 := own_st _ _ (nar .byte (own_y q 16)) s4 _ u2
  have s6 := own_st _ _ (nar .byte (own_y q 8)) s5 _ u1
  have s7 := own_st _ _ (nar .byte (own_y0 q)) s6 _ u0
  have sz : ((own_num (own_ob q 8)).toInt - ((((((((0 * 256 + own_Q q 7 % 256) * 256 + own_Q q 6 % 256) * 256 + own_Q q 5 % 256) * 256 + own_Q q 4 % 256) * 256 + own_Q q 3 % 256) * 256 + own_Q q 2 % 256) * 256 + own_Q q 1 % 256) * 256 + own_Q q 0 % 256)) % 18446744073709551616 = 0 := s7
  clear s0 s1 s2 s3 s4 s5 s6 s7
  have v := own_dv q
  apply own_eq64
  generalize (own_num (own_ob q 8)).toInt = X at *
  omega

def own_mask (len : Int32) : Int64 := ((1 : Int64) <<< (((8 : Int32) * len) &&& 0x3f).toInt64) - (1 : Int64)
theorem own_lit {len : Int32} {N : Nat} {k : Int32} (hN : len.toInt = (N : Int)) (hk : k.toInt = (N : Int)) : len = k := Int32.toInt_inj.mp (hN.trans hk.symm)
theorem own_final8 (q : Int64) {len : Int32} {N : Nat} (hN : len.toInt = (N : Int)) (h : len = (8 : Int32)) : own_num (own_ob q N) = q &&& (-1 : Int64) := by
  have k8 : (8 : Int32).toInt = 8 := by decide
  have : N = 8 := by rw [h, k8] at hN; omega
  subst this
  rw [own_and1]
  exact own_fin8 q
theorem own_final (q : Int64) {len : Int32} {N : Nat} (hN : len.toInt = (N : Int)) (h1 : 1 ≤ N) (h2 : N ≤ 8) (h : ¬ len = (8 : Int32)) : own_num (own_ob q N) = q &&& own_mask len := by
  have hs : N = 1 ∨ N = 2 ∨ N = 3 ∨ N = 4 ∨ N = 5 ∨ N = 6 ∨ N = 7 ∨ N = 8 := by omega
  rcases hs with rfl | rfl | rfl | rfl | rfl | rfl | rfl | rfl
  · have e : len = (1 : Int32) := own_lit hN (by decide)
    rw [e, own_fin1, show own_mask (1 : Int32) = (255 : Int64) from by decide]
  · have e : len = (2 : Int32) := own_lit hN (by decide)
    rw [e, own_fin2, show own_mask (2 : Int32) = (65535 : Int64) from by decide]
  · have e : len = (3 : Int32) := own_lit hN (by decide)
    rw [e, own_fin3, show own_mask (3 : Int32) = (16777215 : Int64) from by decide]
  · have e : len = (4 : Int32) := own_lit hN (by decide)
    rw [e, own_fin4, show own_mask (4 : Int32) = (4294967295 : Int64) from by decide]
  · have e : len = (5 : Int32) := own_lit hN (by decide)
    rw [e, own_fin5, show own_mask (5 : Int32) = (1099511627775 : Int64) from by decide]
  · have e : len = (6 : Int32) := own_lit hN (by decide)
    rw [e, own_fin6, show own_mask (6 : Int32) = (281474976710655 : Int64) from by decide]
  · have e : len = (7 : Int32) := own_lit hN (by decide)
    rw [e, own_fin7, show own_mask (7 : Int32) = (72057594037927935 : Int64) from by decide]
  · exact absurd (own_lit hN (by decide)) h
theorem own_len (p : Int32) : 1 ≤ ((p &&& (7 : Int32)) + (1 : Int32)).toInt ∧ ((p &&& (7 : Int32)) + (1 : Int32)).toInt ≤ 8 := by
  have h1 := c_mask p 7 3 (by decide) (by decide)
  have h3 := c_iadd (p &&& 7) 1
  have h4 := rng32 ((p &&& 7) + 1)
  have k1 : (1 : Int32).toInt = 1 := by decide
  rw [k1] at h3
  omega
theorem own_ty (p : Int32) : 0 ≤ (p &&& (65535 : Int32)).toInt ∧ (p &&& (65535 : Int32)).toInt ≤ 65535 := by
  have h1 := c_mask p 65535 16 (by decide) (by decide)
  omega
theorem own_oblen (q : Int64) {N : Nat} (h1 : 1 ≤ N) (h2 : N ≤ 8) : (own_ob q N).length = N := by
  have hs : N = 1 ∨ N = 2 ∨ N = 3 ∨ N = 4 ∨ N = 5 ∨ N = 6 ∨ N = 7 ∨ N = 8 := by omega
  rcases hs with rfl | rfl | rfl | rfl | rfl | rfl | rfl | rfl <;> rfl
theorem d1_0 : decode method_2_code 0 = .ok (.lload_n 0, 1) := by decide +kernel
theorem d1_1 : decode method_2_code 1 = .ok (.bipush 56, 2) := by decide +kernel
theorem d1_3 : decode method_2_code 3 = .ok (.lushr, 1) := by decide +kernel
theorem d1_4 : decode method_2_code 4 = .ok (.l2i, 1) := by decide +kernel
theorem d1_5 : decode method_2_code 5 = .ok (.i2b, 1) := by decide +kernel
theorem d1_6 : decode method_2_code 6 = .ok (.istore_n 3, 1) := by decide +kernel
theorem d1_7 : decode method_2_code 7 = .ok (.lload_n 0, 1) := by decide +kernel
theorem d1_8 : decode method_2_code 8 = .ok (.bipush 48, 2) := by decide +kernel
theorem d1_10 : decode method_2_code 10 = .ok (.lushr, 1) := by decide +kernel
theorem d1_11 : decode method_2_code 11 = .ok (.l2i, 1) := by decide +kernel
theorem d1_12 : decode method_2_code 12 = .ok (.i2b, 1) := by decide +kernel
theorem d1_13 : decode method_2_code 13 = .ok (.istore 4, 2) := by decide +kernel
theorem d1_15 : decode method_2_code 15 = .ok (.lload_n 0, 1) := by decide +kernel
theorem d1_16 : decode method_2_code 16 = .ok (.bipush 40, 2) := by decide +kernel
theorem d1_18 : decode method_2_code 18 = .ok (.lushr, 1) := by decide +kernel
theorem d1_19 : decode method_2_code 19 = .ok (.l2i, 1) := by decide +kernel
theorem d1_20 : decode method_2_code 20 = .ok (.i2b, 1) := by decide +kernel
theorem d1_21 : decode method_2_code 21 = .ok (.istore 5, 2) := by decide +kernel
theorem d1_23 : decode method_2_code 23 = .ok (.lload_n 0, 1) := by decide +kernel
theorem d1_24 : decode method_2_code 24 = .ok (.bipush 32, 2) := by decide +kernel
theorem d1_26 : decode method_2_code 26 = .ok (.lushr, 1) := by decide +kernel
theorem d1_27 : decode method_2_code 27 = .ok (.l2i, 1) := by decide +kernel
theorem d1_28 : decode method_2_code 28 = .ok (.i2b, 1) := by decide +kernel
theorem d1_29 : decode method_2_code 29 = .ok (.istore 6, 2) := by decide +kernel
theorem d1_31 : decode method_2_code 31 = .ok (.lload_n 0, 1) := by decide +kernel
theorem d1_32 : decode method_2_code 32 = .ok (.bipush 24, 2) := by decide +kernel
theorem d1_34 : decode method_2_code 34 = .ok (.lushr, 1) := by decide +kernel
theorem d1_35 : decode method_2_code 35 = .ok (.l2i, 1) := by decide +kernel
theorem d1_36 : decode method_2_code 36 = .ok (.i2b, 1) := by decide +kernel
theorem d1_37 : decode method_2_code 37 = .ok (.istore 7, 2) := by decide +kernel
theorem d1_39 : decode method_2_code 39 = .ok (.lload_n 0, 1) := by decide +kernel
theorem d1_40 : decode method_2_code 40 = .ok (.bipush 16, 2) := by decide +kernel
theorem d1_42 : decode method_2_code 42 = .ok (.lushr, 1) := by decide +kernel
theorem d1_43 : decode method_2_code 43 = .ok (.l2i, 1) := by decide +kernel
theorem d1_44 : decode method_2_code 44 = .ok (.i2b, 1) := by decide +kernel
theorem d1_45 : decode method_2_code 45 = .ok (.istore 8, 2) := by decide +kernel
theorem d1_47 : decode method_2_code 47 = .ok (.lload_n 0, 1) := by decide +kernel
theorem d1_48 : decode method_2_code 48 = .ok (.bipush 8, 2) := by decide +kernel
theorem d1_50 : decode method_2_code 50 = .ok (.lushr, 1) := by decide +kernel
theorem d1_51 : decode method_2_code 51 = .ok (.l2i, 1) := by decide +kernel
theorem d1_52 : decode method_2_code 52 = .ok (.i2b, 1) := by decide +kernel
theorem d1_53 : decode method_2_code 53 = .ok (.istore 9, 2) := by decide +kernel
theorem d1_55 : decode method_2_code 55 = .ok (.lload_n 0, 1) := by decide +kernel
theorem d1_56 : decode method_2_code 56 = .ok (.l2i, 1) := by decide +kernel
theorem d1_57 : decode method_2_code 57 = .ok (.i2b, 1) := by decide +kernel
theorem d1_58 : decode method_2_code 58 = .ok (.istore 10, 2) := by decide +kernel
theorem d1_60 : decode method_2_code 60 = .ok (.iload_n 2, 1) := by decide +kernel
theorem d1_61 : decode method_2_code 61 = .ok (.iconst 1, 1) := by decide +kernel
theorem d1_62 : decode method_2_code 62 = .ok (.if_icmp .ne 12, 3) := by decide +kernel
theorem d1_65 : decode method_2_code 65 = .ok (.iconst 1, 1) := by decide +kernel
theorem d1_66 : decode method_2_code 66 = .ok (.newarray .byte, 2) := by decide +kernel
theorem d1_68 : decode method_2_code 68 = .ok (.dup, 1) := by decide +kernel
theorem d1_69 : decode method_2_code 69 = .ok (.iconst 0, 1) := by decide +kernel
theorem d1_70 : decode method_2_code 70 = .ok (.iload 10, 2) := by decide +kernel
theorem d1_72 : decode method_2_code 72 = .ok (.bastore, 1) := by decide +kernel
theorem d1_73 : decode method_2_code 73 = .ok (.areturn, 1) := by decide +kernel
theorem d1_74 : decode method_2_code 74 = .ok (.iload_n 2, 1) := by decide +kernel
theorem d1_75 : decode method_2_code 75 = .ok (.iconst 2, 1) := by decide +kernel
theorem d1_76 : decode method_2_code 76 = .ok (.if_icmp .ne 17, 3) := by decide +kernel
theorem d1_79 : decode method_2_code 79 = .ok (.iconst 2, 1) := by decide +kernel
theorem d1_80 : decode method_2_code 80 = .ok (.newarray .byte, 2) := by decide +kernel
theorem d1_82 : decode method_2_code 82 = .ok (.dup, 1) := by decide +kernel
theorem d1_83 : decode method_2_code 83 = .ok (.iconst 0, 1) := by decide +kernel
theorem d1_84 : decode method_2_code 84 = .ok (.iload 9, 2) := by decide +kernel
theorem d1_86 : decode method_2_code 86 = .ok (.bastore, 1) := by decide +kernel
theorem d1_87 : decode method_2_code 87 = .ok (.dup, 1) := by decide +kernel
theorem d1_88 : decode method_2_code 88 = .ok (.iconst 1, 1) := by decide +kernel
theorem d1_89 : decode method_2_code 89 = .ok (.iload 10, 2) := by decide +kernel
theorem d1_91 : decode method_2_code 91 = .ok (.bastore, 1) := by decide +kernel
theorem d1_92 : decode method_2_code 92 = .ok (.areturn, 1) := by decide +kernel
theorem d1_93 : decode method_2_code 93 = .ok (.iload_n 2, 1) := by decide +kernel
theorem d1_94 : decode method_2_code 94 = .ok (.iconst 3, 1) := by decide +kernel
theorem d1_95 : decode method_2_code 95 = .ok (.if_icmp .ne 22, 3) := by decide +kernel
theorem d1_98 : decode method_2_code 98 = .ok (.iconst 3, 1) := by decide +kernel
theorem d1_99 : decode method_2_code 99 = .ok (.newarray .byte, 2) := by decide +kernel
theorem d1_101 : decode method_2_code 101 = .ok (.dup, 1) := by decide +kernel
theorem d1_102 : decode method_2_code 102 = .ok (.iconst 0, 1) := by decide +kernel
theorem d1_103 : decode method_2_code 103 = .ok (.iload 8, 2) := by decide +kernel
theorem d1_105 : decode method_2_code 105 = .ok (.bastore, 1) := by decide +kernel
theorem d1_106 : decode method_2_code 106 = .ok (.dup, 1) := by decide +kernel
theorem d1_107 : decode method_2_code 107 = .ok (.iconst 1, 1) := by decide +kernel
theorem d1_108 : decode method_2_code 108 = .ok (.iload 9, 2) := by decide +kernel
theorem d1_110 : decode method_2_code 110 = .ok (.bastore, 1) := by decide +kernel
theorem d1_111 : decode method_2_code 111 = .ok (.dup, 1) := by decide +kernel
theorem d1_112 : decode method_2_code 112 = .ok (.iconst 2, 1) := by decide +kernel
theorem d1_113 : decode method_2_code 113 = .ok (.iload 10, 2) := by decide +kernel
theorem d1_115 : decode method_2_code 115 = .ok (.bastore, 1) := by decide +kernel
theorem d1_116 : decode method_2_code 116 = .ok (.areturn, 1) := by decide +kernel
theorem d1_117 : decode method_2_code 117 = .ok (.iload_n 2, 1) := by decide +kernel
theorem d1_118 : decode method_2_code 118 = .ok (.iconst 4, 1) := by decide +kernel
theorem d1_119 : decode method_2_code 119 = .ok (.if_icmp .ne 27, 3) := by decide +kernel
theorem d1_122 : decode method_2_code 122 = .ok (.iconst 4, 1) := by decide +kernel
theorem d1_123 : decode method_2_code 123 = .ok (.newarray .byte, 2) := by decide +kernel
theorem d1_125 : decode method_2_code 125 = .ok (.dup, 1) := by decide +kernel
theorem d1_126 : decode method_2_code 126 = .ok (.iconst 0, 1) := by decide +kernel
theorem d1_127 : decode method_2_code 127 = .ok (.iload 7, 2) := by decide +kernel
theorem d1_129 : decode method_2_code 129 = .ok (.bastore, 1) := by decide +kernel
theorem d1_130 : decode method_2_code 130 = .ok (.dup, 1) := by decide +kernel
theorem d1_131 : decode method_2_code 131 = .ok (.iconst 1, 1) := by decide +kernel
theorem d1_132 : decode method_2_code 132 = .ok (.iload 8, 2) := by decide +kernel
theorem d1_134 : decode method_2_code 134 = .ok (.bastore, 1) := by decide +kernel
theorem d1_135 : decode method_2_code 135 = .ok (.dup, 1) := by decide +kernel
theorem d1_136 : decode method_2_code 136 = .ok (.iconst 2, 1) := by decide +kernel
theorem d1_137 : decode method_2_code 137 = .ok (.iload 9, 2) := by decide +kernel
theorem d1_139 : decode method_2_code 139 = .ok (.bastore, 1) := by decide +kernel
theorem d1_140 : decode method_2_code 140 = .ok (.dup, 1) := by decide +kernel
theorem d1_141 : decode method_2_code 141 = .ok (.iconst 3, 1) := by decide +kernel
theorem d1_142 : decode method_2_code 142 = .ok (.iload 10, 2) := by decide +kernel
theorem d1_144 : decode method_2_code 144 = .ok (.bastore, 1) := by decide +kernel
theorem d1_145 : decode method_2_code 145 = .ok (.areturn, 1) := by decide +kernel
theorem d1_146 : decode method_2_code 146 = .ok (.iload_n 2, 1) := by decide +kernel
theorem d1_147 : decode method_2_code 147 = .ok (.iconst 5, 1) := by decide +kernel
theorem d1_148 : decode method_2_code 148 = .ok (.if_icmp .ne 32, 3) := by decide +kernel
theorem d1_151 : decode method_2_code 151 = .ok (.iconst 5, 1) := by decide +kernel
theorem d1_152 : decode method_2_code 152 = .ok (.newarray .byte, 2) := by decide +kernel
theorem d1_154 : decode method_2_code 154 = .ok (.dup, 1) := by decide +kernel
theorem d1_155 : decode method_2_code 155 = .ok (.iconst 0, 1) := by decide +kernel
theorem d1_156 : decode method_2_code 156 = .ok (.iload 6, 2) := by decide +kernel
theorem d1_158 : decode method_2_code 158 = .ok (.bastore, 1) := by decide +kernel
theorem d1_159 : decode method_2_code 159 = .ok (.dup, 1) := by decide +kernel
theorem d1_160 : decode method_2_code 160 = .ok (.iconst 1, 1) := by decide +kernel
theorem d1_161 : decode method_2_code 161 = .ok (.iload 7, 2) := by decide +kernel
theorem d1_163 : decode method_2_code 163 = .ok (.bastore, 1) := by decide +kernel
theorem d1_164 : decode method_2_code 164 = .ok (.dup, 1) := by decide +kernel
theorem d1_165 : decode method_2_code 165 = .ok (.iconst 2, 1) := by decide +kernel
theorem d1_166 : decode method_2_code 166 = .ok (.iload 8, 2) := by decide +kernel
theorem d1_168 : decode method_2_code 168 = .ok (.bastore, 1) := by decide +kernel
theorem d1_169 : decode method_2_code 169 = .ok (.dup, 1) := by decide +kernel
theorem d1_170 : decode method_2_code 170 = .ok (.iconst 3, 1) := by decide +kernel
theorem d1_171 : decode method_2_code 171 = .ok (.iload 9, 2) := by decide +kernel
theorem d1_173 : decode method_2_code 173 = .ok (.bastore, 1) := by decide +kernel
theorem d1_174 : decode method_2_code 174 = .ok (.dup, 1) := by decide +kernel
theorem d1_175 : decode method_2_code 175 = .ok (.iconst 4, 1) := by decide +kernel
theorem d1_176 : decode method_2_code 176 = .ok (.iload 10, 2) := by decide +kernel
theorem d1_178 : decode method_2_code 178 = .ok (.bastore, 1) := by decide +kernel
theorem d1_179 : decode method_2_code 179 = .ok (.areturn, 1) := by decide +kernel
theorem d1_180 : decode method_2_code 180 = .ok (.iload_n 2, 1) := by decide +kernel
theorem d1_181 : decode method_2_code 181 = .ok (.bipush 6, 2) := by decide +kernel
theorem d1_183 : decode method_2_code 183 = .ok (.if_icmp .ne 38, 3) := by decide +kernel
theorem d1_186 : decode method_2_code 186 = .ok (.bipush 6, 2) := by decide +kernel
theorem d1_188 : decode method_2_code 188 = .ok (.newarray .byte, 2) := by decide +kernel
theorem d1_190 : decode method_2_code 190 = .ok (.dup, 1) := by decide +kernel
theorem d1_191 : decode method_2_code 191 = .ok (.iconst 0, 1) := by decide +kernel
theorem d1_192 : decode method_2_code 192 = .ok (.iload 5, 2) := by decide +kernel
theorem d1_194 : decode method_2_code 194 = .ok (.bastore, 1) := by decide +kernel
theorem d1_195 : decode method_2_code 195 = .ok (.dup, 1) := by decide +kernel
theorem d1_196 : decode method_2_code 196 = .ok (.iconst 1, 1) := by decide +kernel
theorem d1_197 : decode method_2_code 197 = .ok (.iload 6, 2) := by decide +kernel
theorem d1_199 : decode method_2_code 199 = .ok (.bastore, 1) := by decide +kernel
theorem d1_200 : decode method_2_code 200 = .ok (.dup, 1) := by decide +kernel
theorem d1_201 : decode method_2_code 201 = .ok (.iconst 2, 1) := by decide +kernel
theorem d1_202 : decode method_2_code 202 = .ok (.iload 7, 2) := by decide +kernel
theorem d1_204 : decode method_2_code 204 = .ok (.bastore, 1) := by decide +kernel
theorem d1_205 : decode method_2_code 205 = .ok (.dup, 1) := by decide +kernel
theorem d1_206 : decode method_2_code 206 = .ok (.iconst 3, 1) := by decide +kernel
theorem d1_207 : decode method_2_code 207 = .ok (.iload 8, 2) := by decide +kernel
theorem d1_209 : decode method_2_code 209 = .ok (.bastore, 1) := by decide +kernel
theorem d1_210 : decode method_2_code 210 = .ok (.dup, 1) := by decide +kernel
theorem d1_211 : decode method_2_code 211 = .ok (.iconst 4, 1) := by decide +kernel
theorem d1_212 : decode method_2_code 212 = .ok (.iload 9, 2) := by decide +kernel
theorem d1_214 : decode method_2_code 214 = .ok (.bastore, 1) := by decide +kernel
theorem d1_215 : decode method_2_code 215 = .ok (.dup, 1) := by decide +kernel
theorem d1_216 : decode method_2_code 216 = .ok (.iconst 5, 1) := by decide +kernel
theorem d1_217 : decode method_2_code 217 = .ok (.iload 10, 2) := by decide +kernel
theorem d1_219 : decode method_2_code 219 = .ok (.bastore, 1) := by decide +kernel
theorem d1_220 : decode method_2_code 220 = .ok (.areturn, 1) := by decide +kernel
theorem d1_221 : decode method_2_code 221 = .ok (.iload_n 2, 1) := by decide +kernel
theorem d1_222 : decode method_2_code 222 = .ok (.bipush 7, 2) := by decide +kernel
theorem d1_224 : decode method_2_code 224 = .ok (.if_icmp .ne 44, 3) := by decide +kernel
theorem d1_227 : decode method_2_code 227 = .ok (.bipush 7, 2) := by decide +kernel
theorem d1_229 : decode method_2_code 229 = .ok (.newarray .byte, 2) := by decide +kernel
theorem d1_231 : decode method_2_code 231 = .ok (.dup, 1) := by decide +kernel
theorem d1_232 : decode method_2_code 232 = .ok (.iconst 0, 1) := by decide +kernel
theorem d1_233 : decode method_2_code 233 = .ok (.iload 4, 2) := by decide +kernel
theorem d1_235 : decode method_2_code 235 = .ok (.bastore, 1) := by decide +kernel
theorem d1_236 : decode method_2_code 236 = .ok (.dup, 1) := by decide +kernel
theorem d1_237 : decode method_2_code 237 = .ok (.iconst 1, 1) := by decide +kernel
theorem d1_238 : decode method_2_code 238 = .ok (.iload 5, 2) := by decide +kernel
theorem d1_240 : decode method_2_code 240 = .ok (.bastore, 1) := by decide +kernel
theorem d1_241 : decode method_2_code 241 = .ok (.dup, 1) := by decide +kernel
theorem d1_242 : decode method_2_code 242 = .ok (.iconst 2, 1) := by decide +kernel
theorem d1_243 : decode method_2_code 243 = .ok (.iload 6, 2) := by decide +kernel
theorem d1_245 : decode method_2_code 245 = .ok (.bastore, 1) := by decide +kernel
theorem d1_246 : decode method_2_code 246 = .ok (.dup, 1) := by decide +kernel
theorem d1_247 : decode method_2_code 247 = .ok (.iconst 3, 1) := by decide +kernel
theorem d1_248 : decode method_2_code 248 = .ok (.iload 7, 2) := by decide +kernel
theorem d1_250 : decode method_2_code 250 = .ok (.bastore, 1) := by decide +kernel
theorem d1_251 : decode method_2_code 251 = .ok (.dup, 1) := by decide +kernel
theorem d1_252 : decode method_2_code 252 = .ok (.iconst 4, 1) := by decide +kernel
theorem d1_253 : decode method_2_code 253 = .ok (.iload 8, 2) := by decide +kernel
theorem d1_255 : decode method_2_code 255 = .ok (.bastore, 1) := by decide +kernel
theorem d1_256 : decode method_2_code 256 = .ok (.dup, 1) := by decide +kernel
theorem d1_257 : decode method_2_code 257 = .ok (.iconst 5, 1) := by decide +kernel
theorem d1_258 : decode method_2_code 258 = .ok (.iload 9, 2) := by decide +kernel
theorem d1_260 : decode method_2_code 260 = .ok (.bastore, 1) := by decide +kernel
theorem d1_261 : decode method_2_code 261 = .ok (.dup, 1) := by decide +kernel
theorem d1_262 : decode method_2_code 262 = .ok (.bipush 6, 2) := by decide +kernel
theorem d1_264 : decode method_2_code 264 = .ok (.iload 10, 2) := by decide +kernel
theorem d1_266 : decode method_2_code 266 = .ok (.bastore, 1) := by decide +kernel
theorem d1_267 : decode method_2_code 267 = .ok (.areturn, 1) := by decide +kernel
theorem d1_268 : decode method_2_code 268 = .ok (.bipush 8, 2) := by decide +kernel
theorem d1_270 : decode method_2_code 270 = .ok (.newarray .byte, 2) := by decide +kernel
theorem d1_272 : decode method_2_code 272 = .ok (.dup, 1) := by decide +kernel
theorem d1_273 : decode method_2_code 273 = .ok (.iconst 0, 1) := by decide +kernel
theorem d1_274 : decode method_2_code 274 = .ok (.iload_n 3, 1) := by decide +kernel
theorem d1_275 : decode method_2_code 275 = .ok (.bastore, 1) := by decide +kernel
theorem d1_276 : decode method_2_code 276 = .ok (.dup, 1) := by decide +kernel
theorem d1_277 : decode method_2_code 277 = .ok (.iconst 1, 1) := by decide +kernel
theorem d1_278 : decode method_2_code 278 = .ok (.iload 4, 2) := by decide +kernel
theorem d1_280 : decode method_2_code 280 = .ok (.bastore, 1) := by decide +kernel
theorem d1_281 : decode method_2_code 281 = .ok (.dup, 1) := by decide +kernel
theorem d1_282 : decode method_2_code 282 = .ok (.iconst 2, 1) := by decide +kernel
theorem d1_283 : decode method_2_code 283 = .ok (.iload 5, 2) := by decide +kernel
theorem d1_285 : decode method_2_code 285 = .ok (.bastore, 1) := by decide +kernel
theorem d1_286 : decode method_2_code 286 = .ok (.dup, 1) := by decide +kernel
theorem d1_287 : decode method_2_code 287 = .ok (.iconst 3, 1) := by decide +kernel
theorem d1_288 : decode method_2_code 288 = .ok (.iload 6, 2) := by decide +kernel
theorem d1_290 : decode method_2_code 290 = .ok (.bastore, 1) := by decide +kernel
theorem d1_291 : decode method_2_code 291 = .ok (.dup, 1) := by decide +kernel
theorem d1_292 : decode method_2_code 292 = .ok (.iconst 4, 1) := by decide +kernel
theorem d1_293 : decode method_2_code 293 = .ok (.iload 7, 2) := by decide +kernel
theorem d1_295 : decode method_2_code 295 = .ok (.bastore, 1) := by decide +kernel
theorem d1_296 : decode method_2_code 296 = .ok (.dup, 1) := by decide +kernel
theorem d1_297 : decode method_2_code 297 = .ok (.iconst 5, 1) := by decide +kernel
theorem d1_298 : decode method_2_code 298 = .ok (.iload 8, 2) := by decide +kernel
theorem d1_300 : decode method_2_code 300 = .ok (.bastore, 1) := by decide +kernel
theorem d1_301 : decode method_2_code 301 = .ok (.dup, 1) := by decide +kernel
theorem d1_302 : decode method_2_code 302 = .ok (.bipush 6, 2) := by decide +kernel
theorem d1_304 : decode method_2_code 304 = .ok (.iload 9, 2) := by decide +kernel
theorem d1_306 : decode method_2_code 306 = .ok (.bastore, 1) := by decide +kernel
theorem d1_307 : decode method_2_code 307 = .ok (.dup, 1) := by decide +kernel
theorem d1_308 : decode method_2_code 308 = .ok (.bipush 7, 2) := by decide +kernel
theorem d1_310 : decode method_2_code 310 = .ok (.iload 10, 2) := by decide +kernel
theorem d1_312 : decode method_2_code 312 = .ok (.bastore, 1) := by decide +kernel
theorem d1_313 : decode method_2_code 313 = .ok (.areturn, 1) := by decide +kernel
theorem own_pn0 : plainName "com/example/cairn/cairn/ccnx/TlvNumberPinLaw" = true := by first | (simp [plainName, overriddenIn]; done) | decide +kernel
theorem own_ef1 (m : MethodId) (q1 : Int64) (p1 : Int32) : entryFrame m #[(.long q1), (.int p1)] 11 = mkF m 0 #[.val (.long q1), .second, .val (.int p1), .unset, .unset, .unset, .unset, .unset, .unset, .unset, .unset] [] := by first | (simp [entryFrame, mkF, argsToLocals, Value.category]; done) | rfl
def Q_own_octets (Z : State) (q1 : Int64) (p1 : Int32) (h0 : Heap) (n0 : Nat) (M : Nat) : Option Value → Heap → List Loc → Prop := fun v h L => ∃ b kb, v = some (.ref b) ∧ Fr n0 L ∧ Keep h0 h [] ∧ h0.size ≤ b ∧ Exa Z h b "[B" ∧ Arv Z h b kb .byte p1 ((own_ob q1 M).map Value.int) (.int (0 : Int32))
set_option maxRecDepth 65536 in
set_option maxHeartbeats 40000000 in
theorem own_octets (l : Launch) (Z : State) (a0 : Array Value) (hw : ∀ d ∈ tables_1, d.before a0 Z = true)  (q1 : Int64) (p1 : Int32) (h0 : Heap) (n0 : Nat) (M : Nat) (Z0 : n0 ≤ h0.size) (hM : p1.toInt = (M : Int)) (hM1 : 1 ≤ M) (hM8 : M ≤ 8) :
    ownMet l Z (⟨"com/example/cairn/cairn/ccnx/TlvNumberPinLaw", "octets", "(JI)[B"⟩ : MethodName) method_2_code 11 (some (.array .byte)) [] ({ frames := 0, cells := 1, slots := 8, locals := 0 } : Room) #[(.long q1), (.int p1)] h0 (Q_own_octets Z q1 p1 h0 n0 M) := by
  refine ownBody (plainFor_of_name own_pn0) ?_
  intro p e s m below meth c T0 hx hby hml hret hlk hZ hown hnm X0 e0
  have N0 : Fr n0 [] := Fr.nil n0
  refine ownVia (fun _ k => castTop (own_ef1 m q1 p1) k) ?_
  show ownFin _ _ _ _ _ (T0.setTop (mkF m 0 #[.val (.long q1), .second, .val (.int p1), .unset, .unset, .unset, .unset, .unset, .unset, .unset, .unset] []))
  have K0 : Keep h0 h0 [] := Keep.refl _ _
  refine ownVia (fun _ k => XS.lloadN X0.here hx rfl (hb hby d1_0) rfl k) ?_
  show ownFin _ _ _ _ _ (T0.setTop (mkF m 1 #[.val (.long q1), .second, .val (.int p1), .unset, .unset, .unset, .unset, .unset, .unset, .unset, .unset] [(.long q1)]))
  refine ownVia (fun _ k => XS.bipush X0.here hx rfl (hb hby d1_1) k) ?_
  show ownFin _ _ _ _ _ (T0.setTop (mkF m 3 #[.val (.long q1), .second, .val (.int p1), .unset, .unset, .unset, .unset, .unset, .unset, .unset, .unset] [(.int (56 : Int32)), (.long q1)]))
  refine ownVia (fun _ k => XS.lushr X0.here hx rfl (hb hby d1_3) rfl k) ?_
  show ownFin _ _ _ _ _ (T0.setTop (mkF m 4 #[.val (.long q1), .second, .val (.int p1), .unset, .unset, .unset, .unset, .unset, .unset, .unset, .unset] [(.long ((q1.toUInt64 >>> ((56 : Int32) &&& 0x3f).toInt64.toUInt64).toInt64))]))
  refine ownVia (fun _ k => XS.l2i X0.here hx rfl (hb hby d1_4) rfl k) ?_
  show ownFin _ _ _ _ _ (T0.setTop (mkF m 5 #[.val (.long q1), .second, .val (.int p1), .unset, .unset, .unset, .unset, .unset, .unset, .unset, .unset] [(.int (((q1.toUInt64 >>> ((56 : Int32) &&& 0x3f).toInt64.toUInt64).toInt64).toInt32))]))
  refine ownVia (fun _ k => XS.i2b X0.here hx rfl (hb hby d1_5) rfl k) ?_
  show ownFin _ _ _ _ _ (T0.setTop (mkF m 6 #[.val (.long q1), .second, .val (.int p1), .unset, .unset, .unset, .unset, .unset, .unset, .unset, .unset] [(.int ((((q1.toUInt64 >>> ((56 : Int32) &&& 0x3f).toInt64.toUInt64).toInt64).toInt32).toInt8.toInt32))]))
  show ownFin _ _ _ _ _ (T0.setTop (mkF m 6 #[.val (.long q1), .second, .val (.int p1), .unset, .unset, .unset, .unset, .unset, .unset, .unset, .unset] [(.int (own_y q1 56))]))
  refine ownVia (fun _ k => XS.istoreN X0.here hx rfl (hb hby d1_6) rfl (l' := #[.val (.long q1), .second, .val (.int p1), .val (.int (own_y q1 56)), .unset, .unset, .unset, .unset, .unset, .unset, .unset]) rfl k) ?_
  show ownFin _ _ _ _ _ (T0.setTop (mkF m 7 #[.val (.long q1), .second, .val (.int p1), .val (.int (own_y q1 56)), .unset, .unset, .unset, .unset, .unset, .unset, .unset] []))
  refine ownVia (fun _ k => XS.lloadN X0.here hx rfl (hb hby d1_7) rfl k) ?_
  show ownFin _ _ _ _ _ (T0.setTop (mkF m 8 #[.val (.long q1), .second, .val (.int p1), .val (.int (own_y q1 56)), .unset, .unset, .unset, .unset, .unset, .unset, .unset] [(.long q1)]))
  refine ownVia (fun _ k => XS.bipush X0.here hx rfl (hb hby d1_8) k) ?_
  show ownFin _ _ _ _ _ (T0.setTop (mkF m 10 #[.val (.long q1), .second, .val (.int p1), .val (.int (own_y q1 56)), .unset, .unset, .unset, .unset, .unset, .unset, .unset] [(.int (48 : Int32)), (.long q1)]))
  refine ownVia (fun _ k => XS.lushr X0.here hx rfl (hb hby d1_10) rfl k) ?_
  show ownFin _ _ _ _ _ (T0.setTop (mkF m 11 #[.val (.long q1), .second, .val (.int p1), .val (.int (own_y q1 56)), .unset, .unset, .unset, .unset, .unset, .unset, .unset] [(.long ((q1.toUInt64 >>> ((48 : Int32) &&& 0x3f).toInt64.toUInt64).toInt64))]))
  refine ownVia (fun _ k => XS.l2i X0.here hx rfl (hb hby d1_11) rfl k) ?_
  show ownFin _ _ _ _ _ (T0.setTop (mkF m 12 #[.val (.long q1), .second, .val (.int p1), .val (.int (own_y q1 56)), .unset, .unset, .unset, .unset, .unset, .unset, .unset] [(.int (((q1.toUInt64 >>> ((48 : Int32) &&& 0x3f).toInt64.toUInt64).toInt64).toInt32))]))
  refine ownVia (fun _ k => XS.i2b X0.here hx rfl (hb hby d1_12) rfl k) ?_
  show ownFin _ _ _ _ _ (T0.setTop (mkF m 13 #[.val (.long q1), .second, .val (.int p1), .val (.int (own_y q1 56)), .unset, .unset, .unset, .unset, .unset, .unset, .unset] [(.int ((((q1.toUInt64 >>> ((48 : Int32) &&& 0x3f).toInt64.toUInt64).toInt64).toInt32).toInt8.toInt32))]))
  show ownFin _ _ _ _ _ (T0.setTop (mkF m 13 #[.val (.long q1), .second, .val (.int p1), .val (.int (own_y q1 56)), .unset, .unset, .unset, .unset, .unset, .unset, .unset] [(.int (own_y q1 48))]))
  refine ownVia (fun _ k => XS.istore X0.here hx rfl (hb hby d1_13) rfl (l' := #[.val (.long q1), .second, .val (.int p1), .val (.int (own_y q1 56)), .val (.int (own_y q1 48)), .unset, .unset, .unset, .unset, .unset, .unset]) rfl k) ?_
  show ownFin _ _ _ _ _ (T0.setTop (mkF m 15 #[.val (.long q1), .second, .val (.int p1), .val (.int (own_y q1 56)), .val (.int (own_y q1 48)), .unset, .unset, .unset, .unset, .unset, .unset] []))
  refine ownVia (fun _ k => XS.lloadN X0.here hx rfl (hb hby d1_15) rfl k) ?_
  show ownFin _ _ _ _ _ (T0.setTop (mkF m 16 #[.val (.long q1), .second, .val (.int p1), .val (.int (own_y q1 56)), .val (.int (own_y q1 48)), .unset, .unset, .unset, .unset, .unset, .unset] [(.long q1)]))
  refine ownVia (fun _ k => XS.bipush X0.here hx rfl (hb hby d1_16) k) ?_
  show ownFin _ _ _ _ _ (T0.setTop (mkF m 18 #[.val (.long q1), .second, .val (.int p1), .val (.int (own_y q1 56)), .val (.int (own_y q1 48)), .unset, .unset, .unset, .unset, .unset, .unset] [(.int (40 : Int32)), (.long q1)]))
  refine ownVia (fun _ k => XS.lushr X0.here hx rfl (hb hby d1_18) rfl k) ?_
  show ownFin _ _ _ _ _ (T0.setTop (mkF m 19 #[.val (.long q1), .second, .val (.int p1), .val (.int (own_y q1 56)), .val (.int (own_y q1 48)), .unset, .unset, .unset, .unset, .unset, .unset] [(.long ((q1.toUInt64 >>> ((40 : Int32) &&& 0x3f).toInt64.toUInt64).toInt64))]))
  refine ownVia (fun _ k => XS.l2i X0.here hx rfl (hb hby d1_19) rfl k) ?_
  show ownFin _ _ _ _ _ (T0.setTop (mkF m 20 #[.val (.long q1), .second, .val (.int p1), .val (.int (own_y q1 56)), .val (.int (own_y q1 48)), .unset, .unset, .unset, .unset, .unset, .unset] [(.int (((q1.toUInt64 >>> ((40 : Int32) &&& 0x3f).toInt64.toUInt64).toInt64).toInt32))]))
  refine ownVia (fun _ k => XS.i2b X0.here hx rfl (hb hby d1_20) rfl k) ?_
  show ownFin _ _ _ _ _ (T0.setTop (mkF m 21 #[.val (.long q1), .second, .val (.int p1), .val (.int (own_y q1 56)), .val (.int (own_y q1 48)), .unset, .unset, .unset, .unset, .unset, .unset] [(.int ((((q1.toUInt64 >>> ((40 : Int32) &&& 0x3f).toInt64.toUInt64).toInt64).toInt32).toInt8.toInt32))]))
  show ownFin _ _ _ _ _ (T0.setTop (mkF m 21 #[.val (.long q1), .second, .val (.int p1), .val (.int (own_y q1 56)), .val (.int (own_y q1 48)), .unset, .unset, .unset, .unset, .unset, .unset] [(.int (own_y q1 40))]))
  refine ownVia (fun _ k => XS.istore X0.here hx rfl (hb hby d1_21) rfl (l' := #[.val (.long q1), .second, .val (.int p1), .val (.int (own_y q1 56)), .val (.int (own_y q1 48)), .val (.int (own_y q1 40)), .unset, .unset, .unset, .unset, .unset]) rfl k) ?_
  show ownFin _ _ _ _ _ (T0.setTop (mkF m 23 #[.val (.long q1), .second, .val (.int p1), .val (.int (own_y q1 56)), .val (.int (own_y q1 48)), .val (.int (own_y q1 40)), .unset, .unset, .unset, .unset, .unset] []))
  refine ownVia (fun _ k => XS.lloadN X0.here hx rfl (hb hby d1_23) rfl k) ?_
  show ownFin _ _ _ _ _ (T0.setTop (mkF m 24 #[.val (.long q1), .second, .val (.int p1), .val (.int (own_y q1 56)), .val (.int (own_y q1 48)), .val (.int (own_y q1 40)), .unset, .unset, .unset, .unset, .unset] [(.long q1)]))
  refine ownVia (fun _ k => XS.bipush X0.here hx rfl (hb hby d1_24) k) ?_
  show ownFin _ _ _ _ _ (T0.setTop (mkF m 26 #[.val (.long q1), .second, .val (.int p1), .val (.int (own_y q1 56)), .val (.int (own_y q1 48)), .val (.int (own_y q1 40)), .unset, .unset, .unset, .unset, .unset] [(.int (32 : Int32)), (.long q1)]))
  refine ownVia (fun _ k => XS.lushr X0.here hx rfl (hb hby d1_26) rfl k) ?_
  show ownFin _ _ _ _ _ (T0.setTop (mkF m 27 #[.val (.long q1), .second, .val (.int p1), .val (.int (own_y q1 56)), .val (.int (own_y q1 48)), .val (.int (own_y q1 40)), .unset, .unset, .unset, .unset, .unset] [(.long ((q1.toUInt64 >>> ((32 : Int32) &&& 0x3f).toInt64.toUInt64).toInt64))]))
  refine ownVia (fun _ k => XS.l2i X0.here hx rfl (hb hby d1_27) rfl k) ?_
  show ownFin _ _ _ _ _ (T0.setTop (mkF m 28 #[.val (.long q1), .second, .val (.int p1), .val (.int (own_y q1 56)), .val (.int (own_y q1 48)), .val (.int (own_y q1 40)), .unset, .unset, .unset, .unset, .unset] [(.int (((q1.toUInt64 >>> ((32 : Int32) &&& 0x3f).toInt64.toUInt64).toInt64).toInt32))]))
  refine ownVia (fun _ k => XS.i2b X0.here hx rfl (hb hby d1_28) rfl k) ?_
  show ownFin _ _ _ _ _ (T0.setTop (mkF m 29 #[.val (.long q1), .second, .val (.int p1), .val (.int (own_y q1 56)), .val (.int (own_y q1 48)), .val (.int (own_y q1 40)), .unset, .unset, .unset, .unset, .unset] [(.int ((((q1.toUInt64 >>> ((32 : Int32) &&& 0x3f).toInt64.toUInt64).toInt64).toInt32).toInt8.toInt32))]))
  show ownFin _ _ _ _ _ (T0.setTop (mkF m 29 #[.val (.long q1), .second, .val (.int p1), .val (.int (own_y q1 56)), .val (.int (own_y q1 48)), .val (.int (own_y q1 40)), .unset, .unset, .unset, .unset, .unset] [(.int (own_y q1 32))]))
  refine ownVia (fun _ k => XS.istore X0.here hx rfl (hb hby d1_29) rfl (l' := #[.val (.long q1), .second, .val (.int p1), .val (.int (own_y q1 56)), .val (.int (own_y q1 48)), .val (.int (own_y q1 40)), .val (.int (own_y q1 32)), .unset, .unset, .unset, .unset]) rfl k) ?_
  show ownFin _ _ _ _ _ (T0.setTop (mkF m 31 #[.val (.long q1), .second, .val (.int p1), .val (.int (own_y q1 56)), .val (.int (own_y q1 48)), .val (.int (own_y q1 40)), .val (.int (own_y q1 32)), .unset, .unset, .unset, .unset] []))
  refine ownVia (fun _ k => XS.lloadN X0.here hx rfl (hb hby d1_31) rfl k) ?_
  show ownFin _ _ _ _ _ (T0.setTop (mkF m 32 #[.val (.long q1), .second, .val (.int p1), .val (.int (own_y q1 56)), .val (.int (own_y q1 48)), .val (.int (own_y q1 40)), .val (.int (own_y q1 32)), .unset, .unset, .unset, .unset] [(.long q1)]))
  refine ownVia (fun _ k => XS.bipush X0.here hx rfl (hb hby d1_32) k) ?_
  show ownFin _ _ _ _ _ (T0.setTop (mkF m 34 #[.val (.long q1), .second, .val (.int p1), .val (.int (own_y q1 56)), .val (.int (own_y q1 48)), .val (.int (own_y q1 40)), .val (.int (own_y q1 32)), .unset, .unset, .unset, .unset] [(.int (24 : Int32)), (.long q1)]))
  refine ownVia (fun _ k => XS.lushr X0.here hx rfl (hb hby d1_34) rfl k) ?_
  show ownFin _ _ _ _ _ (T0.setTop (mkF m 35 #[.val (.long q1), .second, .val (.int p1), .val (.int (own_y q1 56)), .val (.int (own_y q1 48)), .val (.int (own_y q1 40)), .val (.int (own_y q1 32)), .unset, .unset, .unset, .unset] [(.long ((q1.toUInt64 >>> ((24 : Int32) &&& 0x3f).toInt64.toUInt64).toInt64))]))
  refine ownVia (fun _ k => XS.l2i X0.here hx rfl (hb hby d1_35) rfl k) ?_
  show ownFin _ _ _ _ _ (T0.setTop (mkF m 36 #[.val (.long q1), .second, .val (.int p1), .val (.int (own_y q1 56)), .val (.int (own_y q1 48)), .val (.int (own_y q1 40)), .val (.int (own_y q1 32)), .unset, .unset, .unset, .unset] [(.int (((q1.toUInt64 >>> ((24 : Int32) &&& 0x3f).toInt64.toUInt64).toInt64).toInt32))]))
  refine ownVia (fun _ k => XS.i2b X0.here hx rfl (hb hby d1_36) rfl k) ?_
  show ownFin _ _ _ _ _ (T0.setTop (mkF m 37 #[.val (.long q1), .second, .val (.int p1), .val (.int (own_y q1 56)), .val (.int (own_y q1 48)), .val (.int (own_y q1 40)), .val (.int (own_y q1 32)), .unset, .unset, .unset, .unset] [(.int ((((q1.toUInt64 >>> ((24 : Int32) &&& 0x3f).toInt64.toUInt64).toInt64).toInt32).toInt8.toInt32))]))
  show ownFin _ _ _ _ _ (T0.setTop (mkF m 37 #[.val (.long q1), .second, .val (.int p1), .val (.int (own_y q1 56)), .val (.int (own_y q1 48)), .val (.int (own_y q1 40)), .val (.int (own_y q1 32)), .unset, .unset, .unset, .unset] [(.int (own_y q1 24))]))
  refine ownVia (fun _ k => XS.istore X0.here hx rfl (hb hby d1_37) rfl (l' := #[.val (.long q1), .second, .val (.int p1), .val (.int (own_y q1 56)), .val (.int (own_y q1 48)), .val (.int (own_y q1 40)), .val (.int (own_y q1 32)), .val (.int (own_y q1 24)), .unset, .unset, .unset]) rfl k) ?_
  show ownFin _ _ _ _ _ (T0.setTop (mkF m 39 #[.val (.long q1), .second, .val (.int p1), .val (.int (own_y q1 56)), .val (.int (own_y q1 48)), .val (.int (own_y q1 40)), .val (.int (own_y q1 32)), .val (.int (own_y q1 24)), .unset, .unset, .unset] []))
  refine ownVia (fun _ k => XS.lloadN X0.here hx rfl (hb hby d1_39) rfl k) ?_
  show ownFin _ _ _ _ _ (T0.setTop (mkF m 40 #[.val (.long q1), .second, .val (.int p1), .val (.int (own_y q1 56)), .val (.int (own_y q1 48)), .val (.int (own_y q1 40)), .val (.int (own_y q1 32)), .val (.int (own_y q1 24)), .unset, .unset, .unset] [(.long q1)]))
  refine ownVia (fun _ k => XS.bipush X0.here hx rfl (hb hby d1_40) k) ?_
  show ownFin _ _ _ _ _ (T0.setTop (mkF m 42 #[.val (.long q1), .second, .val (.int p1), .val (.int (own_y q1 56)), .val (.int (own_y q1 48)), .val (.int (own_y q1 40)), .val (.int (own_y q1 32)), .val (.int (own_y q1 24)), .unset, .unset, .unset] [(.int (16 : Int32)), (.long q1)]))
  refine ownVia (fun _ k => XS.lushr X0.here hx rfl (hb hby d1_42) rfl k) ?_
  show ownFin _ _ _ _ _ (T0.setTop (mkF m 43 #[.val (.long q1), .second, .val (.int p1), .val (.int (own_y q1 56)), .val (.int (own_y q1 48)), .val (.int (own_y q1 40)), .val (.int (own_y q1 32)), .val (.int (own_y q1 24)), .unset, .unset, .unset] [(.long ((q1.toUInt64 >>> ((16 : Int32) &&& 0x3f).toInt64.toUInt64).toInt64))]))
  refine ownVia (fun _ k => XS.l2i X0.here hx rfl (hb hby d1_43) rfl k) ?_
  show ownFin _ _ _ _ _ (T0.setTop (mkF m 44 #[.val (.long q1), .second, .val (.int p1), .val (.int (own_y q1 56)), .val (.int (own_y q1 48)), .val (.int (own_y q1 40)), .val (.int (own_y q1 32)), .val (.int (own_y q1 24)), .unset, .unset, .unset] [(.int (((q1.toUInt64 >>> ((16 : Int32) &&& 0x3f).toInt64.toUInt64).toInt64).toInt32))]))
  refine ownVia (fun _ k => XS.i2b X0.here hx rfl (hb hby d1_44) rfl k) ?_
  show ownFin _ _ _ _ _ (T0.setTop (mkF m 45 #[.val (.long q1), .second, .val (.int p1), .val (.int (own_y q1 56)), .val (.int (own_y q1 48)), .val (.int (own_y q1 40)), .val (.int (own_y q1 32)), .val (.int (own_y q1 24)), .unset, .unset, .unset] [(.int ((((q1.toUInt64 >>> ((16 : Int32) &&& 0x3f).toInt64.toUInt64).toInt64).toInt32).toInt8.toInt32))]))
  show ownFin _ _ _ _ _ (T0.setTop (mkF m 45 #[.val (.long q1), .second, .val (.int p1), .val (.int (own_y q1 56)), .val (.int (own_y q1 48)), .val (.int (own_y q1 40)), .val (.int (own_y q1 32)), .val (.int (own_y q1 24)), .unset, .unset, .unset] [(.int (own_y q1 16))]))
  refine ownVia (fun _ k => XS.istore X0.here hx rfl (hb hby d1_45) rfl (l' := #[.val (.long q1), .second, .val (.int p1), .val (.int (own_y q1 56)), .val (.int (own_y q1 48)), .val (.int (own_y q1 40)), .val (.int (own_y q1 32)), .val (.int (own_y q1 24)), .val (.int (own_y q1 16)), .unset, .unset]) rfl k) ?_
  show ownFin _ _ _ _ _ (T0.setTop (mkF m 47 #[.val (.long q1), .second, .val (.int p1), .val (.int (own_y q1 56)), .val (.int (own_y q1 48)), .val (.int (own_y q1 40)), .val (.int (own_y q1 32)), .val (.int (own_y q1 24)), .val (.int (own_y q1 16)), .unset, .unset] []))
  refine ownVia (fun _ k => XS.lloadN X0.here hx rfl (hb hby d1_47) rfl k) ?_
  show ownFin _ _ _ _ _ (T0.setTop (mkF m 48 #[.val (.long q1), .second, .val (.int p1), .val (.int (own_y q1 56)), .val (.int (own_y q1 48)), .val (.int (own_y q1 40)), .val (.int (own_y q1 32)), .val (.int (own_y q1 24)), .val (.int (own_y q1 16)), .unset, .unset] [(.long q1)]))
  refine ownVia (fun _ k => XS.bipush X0.here hx rfl (hb hby d1_48) k) ?_
  show ownFin _ _ _ _ _ (T0.setTop (mkF m 50 #[.val (.long q1), .second, .val (.int p1), .val (.int (own_y q1 56)), .val (.int (own_y q1 48)), .val (.int (own_y q1 40)), .val (.int (own_y q1 32)), .val (.int (own_y q1 24)), .val (.int (own_y q1 16)), .unset, .unset] [(.int (8 : Int32)), (.long q1)]))
  refine ownVia (fun _ k => XS.lushr X0.here hx rfl (hb hby d1_50) rfl k) ?_
  show ownFin _ _ _ _ _ (T0.setTop (mkF m 51 #[.val (.long q1), .second, .val (.int p1), .val (.int (own_y q1 56)), .val (.int (own_y q1 48)), .val (.int (own_y q1 40)), .val (.int (own_y q1 32)), .val (.int (own_y q1 24)), .val (.int (own_y q1 16)), .unset, .unset] [(.long ((q1.toUInt64 >>> ((8 : Int32) &&& 0x3f).toInt64.toUInt64).toInt64))]))
  refine ownVia (fun _ k => XS.l2i X0.here hx rfl (hb hby d1_51) rfl k) ?_
  show ownFin _ _ _ _ _ (T0.setTop (mkF m 52 #[.val (.long q1), .second, .val (.int p1), .val (.int (own_y q1 56)), .val (.int (own_y q1 48)), .val (.int (own_y q1 40)), .val (.int (own_y q1 32)), .val (.int (own_y q1 24)), .val (.int (own_y q1 16)), .unset, .unset] [(.int (((q1.toUInt64 >>> ((8 : Int32) &&& 0x3f).toInt64.toUInt64).toInt64).toInt32))]))
  refine ownVia (fun _ k => XS.i2b X0.here hx rfl (hb hby d1_52) rfl k) ?_
  show ownFin _ _ _ _ _ (T0.setTop (mkF m 53 #[.val (.long q1), .second, .val (.int p1), .val (.int (own_y q1 56)), .val (.int (own_y q1 48)), .val (.int (own_y q1 40)), .val (.int (own_y q1 32)), .val (.int (own_y q1 24)), .val (.int (own_y q1 16)), .unset, .unset] [(.int ((((q1.toUInt64 >>> ((8 : Int32) &&& 0x3f).toInt64.toUInt64).toInt64).toInt32).toInt8.toInt32))]))
  show ownFin _ _ _ _ _ (T0.setTop (mkF m 53 #[.val (.long q1), .second, .val (.int p1), .val (.int (own_y q1 56)), .val (.int (own_y q1 48)), .val (.int (own_y q1 40)), .val (.int (own_y q1 32)), .val (.int (own_y q1 24)), .val (.int (own_y q1 16)), .unset, .unset] [(.int (own_y q1 8))]))
  refine ownVia (fun _ k => XS.istore X0.here hx rfl (hb hby d1_53) rfl (l' := #[.val (.long q1), .second, .val (.int p1), .val (.int (own_y q1 56)), .val (.int (own_y q1 48)), .val (.int (own_y q1 40)), .val (.int (own_y q1 32)), .val (.int (own_y q1 24)), .val (.int (own_y q1 16)), .val (.int (own_y q1 8)), .unset]) rfl k) ?_
  show ownFin _ _ _ _ _ (T0.setTop (mkF m 55 #[.val (.long q1), .second, .val (.int p1), .val (.int (own_y q1 56)), .val (.int (own_y q1 48)), .val (.int (own_y q1 40)), .val (.int (own_y q1 32)), .val (.int (own_y q1 24)), .val (.int (own_y q1 16)), .val (.int (own_y q1 8)), .unset] []))
  refine ownVia (fun _ k => XS.lloadN X0.here hx rfl (hb hby d1_55) rfl k) ?_
  show ownFin _ _ _ _ _ (T0.setTop (mkF m 56 #[.val (.long q1), .second, .val (.int p1), .val (.int (own_y q1 56)), .val (.int (own_y q1 48)), .val (.int (own_y q1 40)), .val (.int (own_y q1 32)), .val (.int (own_y q1 24)), .val (.int (own_y q1 16)), .val (.int (own_y q1 8)), .unset] [(.long q1)]))
  refine ownVia (fun _ k => XS.l2i X0.here hx rfl (hb hby d1_56) rfl k) ?_
  show ownFin _ _ _ _ _ (T0.setTop (mkF m 57 #[.val (.long q1), .second, .val (.int p1), .val (.int (own_y q1 56)), .val (.int (own_y q1 48)), .val (.int (own_y q1 40)), .val (.int (own_y q1 32)), .val (.int (own_y q1 24)), .val (.int (own_y q1 16)), .val (.int (own_y q1 8)), .unset] [(.int (q1.toInt32))]))
  refine ownVia (fun _ k => XS.i2b X0.here hx rfl (hb hby d1_57) rfl k) ?_
  show ownFin _ _ _ _ _ (T0.setTop (mkF m 58 #[.val (.long q1), .second, .val (.int p1), .val (.int (own_y q1 56)), .val (.int (own_y q1 48)), .val (.int (own_y q1 40)), .val (.int (own_y q1 32)), .val (.int (own_y q1 24)), .val (.int (own_y q1 16)), .val (.int (own_y q1 8)), .unset] [(.int ((q1.toInt32).toInt8.toInt32))]))
  show ownFin _ _ _ _ _ (T0.setTop (mkF m 58 #[.val (.long q1), .second, .val (.int p1), .val (.int (own_y q1 56)), .val (.int (own_y q1 48)), .val (.int (own_y q1 40)), .val (.int (own_y q1 32)), .val (.int (own_y q1 24)), .val (.int (own_y q1 16)), .val (.int (own_y q1 8)), .unset] [(.int (own_y0 q1))]))
  refine ownVia (fun _ k => XS.istore X0.here hx rfl (hb hby d1_58) rfl (l' := #[.val (.long q1), .second, .val (.int p1), .val (.int (own_y q1 56)), .val (.int (own_y q1 48)), .val (.int (own_y q1 40)), .val (.int (own_y q1 32)), .val (.int (own_y q1 24)), .val (.int (own_y q1 16)), .val (.int (own_y q1 8)), .val (.int (own_y0 q1))]) rfl k) ?_
  show ownFin _ _ _ _ _ (T0.setTop (mkF m 60 #[.val (.long q1), .second, .val (.int p1), .val (.int (own_y q1 56)), .val (.int (own_y q1 48)), .val (.int (own_y q1 40)), .val (.int (own_y q1 32)), .val (.int (own_y q1 24)), .val (.int (own_y q1 16)), .val (.int (own_y q1 8)), .val (.int (own_y0 q1))] []))
  refine ownVia (fun _ k => XS.iloadN X0.here hx rfl (hb hby d1_60) rfl k) ?_
  show ownFin _ _ _ _ _ (T0.setTop (mkF m 61 #[.val (.long q1), .second, .val (.int p1), .val (.int (own_y q1 56)), .val (.int (own_y q1 48)), .val (.int (own_y q1 40)), .val (.int (own_y q1 32)), .val (.int (own_y q1 24)), .val (.int (own_y q1 16)), .val (.int (own_y q1 8)), .val (.int (own_y0 q1))] [(.int p1)]))
  refine ownVia (fun _ k => XS.iconst X0.here hx rfl (hb hby d1_61) k) ?_
  show ownFin _ _ _ _ _ (T0.setTop (mkF m 62 #[.val (.long q1), .second, .val (.int p1), .val (.int (own_y q1 56)), .val (.int (own_y q1 48)), .val (.int (own_y q1 40)), .val (.int (own_y q1 32)), .val (.int (own_y q1 24)), .val (.int (own_y q1 16)), .val (.int (own_y q1 8)), .val (.int (own_y0 q1))] [(.int (1 : Int32)), (.int p1)]))
  by_cases hc2 : p1 = (1 : Int32)
  case pos =>
    have hc2I : (M : Int) = 1 := (own_eqi hM (by decide)).mp hc2
    refine ownVia (fun _ k => XS.icmpNo X0.here hx rfl (hb hby d1_62) rfl (teq hc2).2 k) ?_
    show ownFin _ _ _ _ _ (T0.setTop (mkF m 65 #[.val (.long q1), .second, .val (.int p1), .val (.int (own_y q1 56)), .val (.int (own_y q1 48)), .val (.int (own_y q1 40)), .val (.int (own_y q1 32)), .val (.int (own_y q1 24)), .val (.int (own_y q1 16)), .val (.int (own_y q1 8)), .val (.int (own_y0 q1))] []))
    refine ownVia (fun _ k => XS.iconst X0.here hx rfl (hb hby d1_65) k) ?_
    show ownFin _ _ _ _ _ (T0.setTop (mkF m 66 #[.val (.long q1), .second, .val (.int p1), .val (.int (own_y q1 56)), .val (.int (own_y q1 48)), .val (.int (own_y q1 40)), .val (.int (own_y q1 32)), .val (.int (own_y q1 24)), .val (.int (own_y q1 16)), .val (.int (own_y q1 8)), .val (.int (own_y0 q1))] [(.int (1 : Int32))]))
    refine ownNewP X0 hx hZ (hw _ (List.mem_of_getElem? (i := 8) rfl)) e0 "[B" (by decide) (by decide) (1) (by decide) (8) (by decide) (by decide) (by decide) (by decide) (hb hby d1_66) ?_
    intro T3 h3 k_b1 b1 g3 X3 e3 E3 A_b1 E_b1
    have ge_b1 : n0 ≤ b1 := Nat.le_trans Z0 (Nat.le_of_eq g3.symm)
    have sz_b1 : h0.size ≤ b1 := Nat.le_trans K0.1 (Nat.le_of_eq g3.symm)
    have K0 := K0.ext E3
    have Z0 := own_sz Z0 E3
    have A_b1 : Arv Z h3 b1 k_b1 .byte (1 : Int32) [(.int (0 : Int32))] (.int (0 : Int32)) := A_b1
    show ownFin _ _ _ _ _ (T3.setTop (mkF m 68 #[.val (.long q1), .second, .val (.int p1), .val (.int (own_y q1 56)), .val (.int (own_y q1 48)), .val (.int (own_y q1 40)), .val (.int (own_y q1 32)), .val (.int (own_y q1 24)), .val (.int (own_y q1 16)), .val (.int (own_y q1 8)), .val (.int (own_y0 q1))] [(.ref b1)]))
    refine ownVia (fun _ k => XS.dup X3.here hx rfl (hb hby d1_68) rfl rfl k) ?_
    show ownFin _ _ _ _ _ (T3.setTop (mkF m 69 #[.val (.long q1), .second, .val (.int p1), .val (.int (own_y q1 56)), .val (.int (own_y q1 48)), .val (.int (own_y q1 40)), .val (.int (own_y q1 32)), .val (.int (own_y q1 24)), .val (.int (own_y q1 16)), .val (.int (own_y q1 8)), .val (.int (own_y0 q1))] [(.ref b1), (.ref b1)]))
    refine ownVia (fun _ k => XS.iconst X3.here hx rfl (hb hby d1_69) k) ?_
    show ownFin _ _ _ _ _ (T3.setTop (mkF m 70 #[.val (.long q1), .second, .val (.int p1), .val (.int (own_y q1 56)), .val (.int (own_y q1 48)), .val (.int (own_y q1 40)), .val (.int (own_y q1 32)), .val (.int (own_y q1 24)), .val (.int (own_y q1 16)), .val (.int (own_y q1 8)), .val (.int (own_y0 q1))] [(.int (0 : Int32)), (.ref b1), (.ref b1)]))
    refine ownVia (fun _ k => XS.iload X3.here hx rfl (hb hby d1_70) rfl k) ?_
    show ownFin _ _ _ _ _ (T3.setTop (mkF m 72 #[.val (.long q1), .second, .val (.int p1), .val (.int (own_y q1 56)), .val (.int (own_y q1 48)), .val (.int (own_y q1 40)), .val (.int (own_y q1 32)), .val (.int (own_y q1 24)), .val (.int (own_y q1 16)), .val (.int (own_y q1 8)), .val (.int (own_y0 q1))] [(.int (own_y0 q1)), (.int (0 : Int32)), (.ref b1), (.ref b1)]))
    refine ownBastore X3 hx hZ e3 A_b1 ⟨by decide, by decide⟩ (0) (by decide) (Nat.le_of_ble_eq_true rfl) N0 ge_b1 (hb hby d1_72) ?_
    intro T4 h4 L4 X4 e4 N4 W4 A_b1
    have E_b1 := E_b1.wr W4
    have K0 := K0.wr W4 (Or.inr sz_b1)
    have Z0 := own_szW Z0 W4
    have A_b1 : Arv Z h4 b1 k_b1 .byte (1 : Int32) [(.int (nar .byte (own_y0 q1)))] (.int (0 : Int32)) := A_b1
    show ownFin _ _ _ _ _ (T4.setTop (mkF m 73 #[.val (.long q1), .second, .val (.int p1), .val (.int (own_y q1 56)), .val (.int (own_y q1 48)), .val (.int (own_y q1 40)), .val (.int (own_y q1 32)), .val (.int (own_y q1 24)), .val (.int (own_y q1 16)), .val (.int (own_y q1 8)), .val (.int (own_y0 q1))] [(.ref b1)]))
    have hMN : M = 1 := by omega
    refine ownRetA X4 hx hlk (ty := (.array .byte)) hret rfl (hb hby d1_73) (by decide) (by decide) ?_
    show (Q_own_octets Z q1 p1 h0 n0 M) (some (.ref b1)) T4.heap _
    rw [e4]
    exact ⟨b1, k_b1, rfl, N4, K0, sz_b1, E_b1, by rw [(own_lit hM (by rw [hMN]; decide) : p1 = (1 : Int32)), hMN]; exact A_b1⟩
  case neg =>
    have hc2I : ¬ (M : Int) = 1 := fun q => hc2 ((own_eqi hM (by decide)).mpr q)
    refine ownVia (fun _ k => XS.icmpYes X0.here hx rfl (pc0 := 62) (pc' := 74) rfl (hb hby d1_62) rfl (feq hc2).2 (by decide) (by decide) k) ?_
    show ownFin _ _ _ _ _ (T0.setTop (mkF m 74 #[.val (.long q1), .second, .val (.int p1), .val (.int (own_y q1 56)), .val (.int (own_y q1 48)), .val (.int (own_y q1 40)), .val (.int (own_y q1 32)), .val (.int (own_y q1 24)), .val (.int (own_y q1 16)), .val (.int (own_y q1 8)), .val (.int (own_y0 q1))] []))
    refine ownVia (fun _ k => XS.iloadN X0.here hx rfl (hb hby d1_74) rfl k) ?_
    show ownFin _ _ _ _ _ (T0.setTop (mkF m 75 #[.val (.long q1), .second, .val (.int p1), .val (.int (own_y q1 56)), .val (.int (own_y q1 48)), .val (.int (own_y q1 40)), .val (.int (own_y q1 32)), .val (.int (own_y q1 24)), .val (.int (own_y q1 16)), .val (.int (own_y q1 8)), .val (.int (own_y0 q1))] [(.int p1)]))
    refine ownVia (fun _ k => XS.iconst X0.here hx rfl (hb hby d1_75) k) ?_
    show ownFin _ _ _ _ _ (T0.setTop (mkF m 76 #[.val (.long q1), .second, .val (.int p1), .val (.int (own_y q1 56)), .val (.int (own_y q1 48)), .val (.int (own_y q1 40)), .val (.int (own_y q1 32)), .val (.int (own_y q1 24)), .val (.int (own_y q1 16)), .val (.int (own_y q1 8)), .val (.int (own_y0 q1))] [(.int (2 : Int32)), (.int p1)]))
    by_cases hc5 : p1 = (2 : Int32)
    case pos =>
      have hc5I : (M : Int) = 2 := (own_eqi hM (by decide)).mp hc5
      refine ownVia (fun _ k => XS.icmpNo X0.here hx rfl (hb hby d1_76) rfl (teq hc5).2 k) ?_
      show ownFin _ _ _ _ _ (T0.setTop (mkF m 79 #[.val (.long q1), .second, .val (.int p1), .val (.int (own_y q1 56)), .val (.int (own_y q1 48)), .val (.int (own_y q1 40)), .val (.int (own_y q1 32)), .val (.int (own_y q1 24)), .val (.int (own_y q1 16)), .val (.int (own_y q1 8)), .val (.int (own_y0 q1))] []))
      refine ownVia (fun _ k => XS.iconst X0.here hx rfl (hb hby d1_79) k) ?_
      show ownFin _ _ _ _ _ (T0.setTop (mkF m 80 #[.val (.long q1), .second, .val (.int p1), .val (.int (own_y q1 56)), .val (.int (own_y q1 48)), .val (.int (own_y q1 40)), .val (.int (own_y q1 32)), .val (.int (own_y q1 24)), .val (.int (own_y q1 16)), .val (.int (own_y q1 8)), .val (.int (own_y0 q1))] [(.int (2 : Int32))]))
      refine ownNewP X0 hx hZ (hw _ (List.mem_of_getElem? (i := 8) rfl)) e0 "[B" (by decide) (by decide) (2) (by decide) (8) (by decide) (by decide) (by decide) (by decide) (hb hby d1_80) ?_
      intro T6 h6 k_b1 b1 g6 X6 e6 E6 A_b1 E_b1
      have ge_b1 : n0 ≤ b1 := Nat.le_trans Z0 (Nat.le_of_eq g6.symm)
      have sz_b1 : h0.size ≤ b1 := Nat.le_trans K0.1 (Nat.le_of_eq g6.symm)
      have K0 := K0.ext E6
      have Z0 := own_sz Z0 E6
      have A_b1 : Arv Z h6 b1 k_b1 .byte (2 : Int32) [(.int (0 : Int32)), (.int (0 : Int32))] (.int (0 : Int32)) := A_b1
      show ownFin _ _ _ _ _ (T6.setTop (mkF m 82 #[.val (.long q1), .second, .val (.int p1), .val (.int (own_y q1 56)), .val (.int (own_y q1 48)), .val (.int (own_y q1 40)), .val (.int (own_y q1 32)), .val (.int (own_y q1 24)), .val (.int (own_y q1 16)), .val (.int (own_y q1 8)), .val (.int (own_y0 q1))] [(.ref b1)]))
      refine ownVia (fun _ k => XS.dup X6.here hx rfl (hb hby d1_82) rfl rfl k) ?_
      show ownFin _ _ _ _ _ (T6.setTop (mkF m 83 #[.val (.long q1), .second, .val (.int p1), .val (.int (own_y q1 56)), .val (.int (own_y q1 48)), .val (.int (own_y q1 40)), .val (.int (own_y q1 32)), .val (.int (own_y q1 24)), .val (.int (own_y q1 16)), .val (.int (own_y q1 8)), .val (.int (own_y0 q1))] [(.ref b1), (.ref b1)]))
      refine ownVia (fun _ k => XS.iconst X6.here hx rfl (hb hby d1_83) k) ?_
      show ownFin _ _ _ _ _ (T6.setTop (mkF m 84 #[.val (.long q1), .second, .val (.int p1), .val (.int (own_y q1 56)), .val (.int (own_y q1 48)), .val (.int (own_y q1 40)), .val (.int (own_y q1 32)), .val (.int (own_y q1 24)), .val (.int (own_y q1 16)), .val (.int (own_y q1 8)), .val (.int (own_y0 q1))] [(.int (0 : Int32)), (.ref b1), (.ref b1)]))
      refine ownVia (fun _ k => XS.iload X6.here hx rfl (hb hby d1_84) rfl k) ?_
      show ownFin _ _ _ _ _ (T6.setTop (mkF m 86 #[.val (.long q1), .second, .val (.int p1), .val (.int (own_y q1 56)), .val (.int (own_y q1 48)), .val (.int (own_y q1 40)), .val (.int (own_y q1 32)), .val (.int (own_y q1 24)), .val (.int (own_y q1 16)), .val (.int (own_y q1 8)), .val (.int (own_y0 q1))] [(.int (own_y q1 8)), (.int (0 : Int32)), (.ref b1), (.ref b1)]))
      refine ownBastore X6 hx hZ e6 A_b1 ⟨by decide, by decide⟩ (0) (by decide) (Nat.le_of_ble_eq_true rfl) N0 ge_b1 (hb hby d1_86) ?_
      intro T7 h7 L7 X7 e7 N7 W7 A_b1
      have E_b1 := E_b1.wr W7
      have K0 := K0.wr W7 (Or.inr sz_b1)
      have Z0 := own_szW Z0 W7
      have A_b1 : Arv Z h7 b1 k_b1 .byte (2 : Int32) [(.int (nar .byte (own_y q1 8))), (.int (0 : Int32))] (.int (0 : Int32)) := A_b1
      show ownFin _ _ _ _ _ (T7.setTop (mkF m 87 #[.val (.long q1), .second, .val (.int p1), .val (.int (own_y q1 56)), .val (.int (own_y q1 48)), .val (.int (own_y q1 40)), .val (.int (own_y q1 32)), .val (.int (own_y q1 24)), .val (.int (own_y q1 16)), .val (.int (own_y q1 8)), .val (.int (own_y0 q1))] [(.ref b1)]))
      refine ownVia (fun _ k => XS.dup X7.here hx rfl (hb hby d1_87) rfl rfl k) ?_
      show ownFin _ _ _ _ _ (T7.setTop (mkF m 88 #[.val (.long q1), .second, .val (.int p1), .val (.int (own_y q1 56)), .val (.int (own_y q1 48)), .val (.int (own_y q1 40)), .val (.int (own_y q1 32)), .val (.int (own_y q1 24)), .val (.int (own_y q1 16)), .val (.int (own_y q1 8)), .val (.int (own_y0 q1))] [(.ref b1), (.ref b1)]))
      refine ownVia (fun _ k => XS.iconst X7.here hx rfl (hb hby d1_88) k) ?_
      show ownFin _ _ _ _ _ (T7.setTop (mkF m 89 #[.val (.long q1), .second, .val (.int p1), .val (.int (own_y q1 56)), .val (.int (own_y q1 48)), .val (.int (own_y q1 40)), .val (.int (own_y q1 32)), .val (.int (own_y q1 24)), .val (.int (own_y q1 16)), .val (.int (own_y q1 8)), .val (.int (own_y0 q1))] [(.int (1 : Int32)), (.ref b1), (.ref b1)]))
      refine ownVia (fun _ k => XS.iload X7.here hx rfl (hb hby d1_89) rfl k) ?_
      show ownFin _ _ _ _ _ (T7.setTop (mkF m 91 #[.val (.long q1), .second, .val (.int p1), .val (.int (own_y q1 56)), .val (.int (own_y q1 48)), .val (.int (own_y q1 40)), .val (.int (own_y q1 32)), .val (.int (own_y q1 24)), .val (.int (own_y q1 16)), .val (.int (own_y q1 8)), .val (.int (own_y0 q1))] [(.int (own_y0 q1)), (.int (1 : Int32)), (.ref b1), (.ref b1)]))
      refine ownBastore X7 hx hZ e7 A_b1 ⟨by decide, by decide⟩ (1) (by decide) (Nat.le_of_ble_eq_true rfl) N7 ge_b1 (hb hby d1_91) ?_
      intro T8 h8 L8 X8 e8 N8 W8 A_b1
      have E_b1 := E_b1.wr W8
      have K0 := K0.wr W8 (Or.inr sz_b1)
      have Z0 := own_szW Z0 W8
      have A_b1 : Arv Z h8 b1 k_b1 .byte (2 : Int32) [(.int (nar .byte (own_y q1 8))), (.int (nar .byte (own_y0 q1)))] (.int (0 : Int32)) := A_b1
      show ownFin _ _ _ _ _ (T8.setTop (mkF m 92 #[.val (.long q1), .second, .val (.int p1), .val (.int (own_y q1 56)), .val (.int (own_y q1 48)), .val (.int (own_y q1 40)), .val (.int (own_y q1 32)), .val (.int (own_y q1 24)), .val (.int (own_y q1 16)), .val (.int (own_y q1 8)), .val (.int (own_y0 q1))] [(.ref b1)]))
      have hMN : M = 2 := by omega
      refine ownRetA X8 hx hlk (ty := (.array .byte)) hret rfl (hb hby d1_92) (by decide) (by decide) ?_
      show (Q_own_octets Z q1 p1 h0 n0 M) (some (.ref b1)) T8.heap _
      rw [e8]
      exact ⟨b1, k_b1, rfl, N8, K0, sz_b1, E_b1, by rw [(own_lit hM (by rw [hMN]; decide) : p1 = (2 : Int32)), hMN]; exact A_b1⟩
    case neg =>
      have hc5I : ¬ (M : Int) = 2 := fun q => hc5 ((own_eqi hM (by decide)).mpr q)
      refine ownVia (fun _ k => XS.icmpYes X0.here hx rfl (pc0 := 76) (pc' := 93) rfl (hb hby d1_76) rfl (feq hc5).2 (by decide) (by decide) k) ?_
      show ownFin _ _ _ _ _ (T0.setTop (mkF m 93 #[.val (.long q1), .second, .val (.int p1), .val (.int (own_y q1 56)), .val (.int (own_y q1 48)), .val (.int (own_y q1 40)), .val (.int (own_y q1 32)), .val (.int (own_y q1 24)), .val (.int (own_y q1 16)), .val (.int (own_y q1 8)), .val (.int (own_y0 q1))] []))
      refine ownVia (fun _ k => XS.iloadN X0.here hx rfl (hb hby d1_93) rfl k) ?_
      show ownFin _ _ _ _ _ (T0.setTop (mkF m 94 #[.val (.long q1), .second, .val (.int p1), .val (.int (own_y q1 56)), .val (.int (own_y q1 48)), .val (.int (own_y q1 40)), .val (.int (own_y q1 32)), .val (.int (own_y q1 24)), .val (.int (own_y q1 16)), .val (.int (own_y q1 8)), .val (.int (own_y0 q1))] [(.int p1)]))
      refine ownVia (fun _ k => XS.iconst X0.here hx rfl (hb hby d1_94) k) ?_
      show ownFin _ _ _ _ _ (T0.setTop (mkF m 95 #[.val (.long q1), .second, .val (.int p1), .val (.int (own_y q1 56)), .val (.int (own_y q1 48)), .val (.int (own_y q1 40)), .val (.int (own_y q1 32)), .val (.int (own_y q1 24)), .val (.int (own_y q1 16)), .val (.int (own_y q1 8)), .val (.int (own_y0 q1))] [(.int (3 : Int32)), (.int p1)]))
      by_cases hc9 : p1 = (3 : Int32)
      case pos =>
        have hc9I : (M : Int) = 3 := (own_eqi hM (by decide)).mp hc9
        refine ownVia (fun _ k => XS.icmpNo X0.here hx rfl (hb hby d1_95) rfl (teq hc9).2 k) ?_
        show ownFin _ _ _ _ _ (T0.setTop (mkF m 98 #[.val (.long q1), .second, .val (.int p1), .val (.int (own_y q1 56)), .val (.int (own_y q1 48)), .val (.int (own_y q1 40)), .val (.int (own_y q1 32)), .val (.int (own_y q1 24)), .val (.int (own_y q1 16)), .val (.int (own_y q1 8)), .val (.int (own_y0 q1))] []))
        refine ownVia (fun _ k => XS.iconst X0.here hx rfl (hb hby d1_98) k) ?_
        show ownFin _ _ _ _ _ (T0.setTop (mkF m 99 #[.val (.long q1), .second, .val (.int p1), .val (.int (own_y q1 56)), .val (.int (own_y q1 48)), .val (.int (own_y q1 40)), .val (.int (own_y q1 32)), .val (.int (own_y q1 24)), .val (.int (own_y q1 16)), .val (.int (own_y q1 8)), .val (.int (own_y0 q1))] [(.int (3 : Int32))]))
        refine ownNewP X0 hx hZ (hw _ (List.mem_of_getElem? (i := 8) rfl)) e0 "[B" (by decide) (by decide) (3) (by decide) (8) (by decide) (by decide) (by decide) (by decide) (hb hby d1_99) ?_
        intro T10 h10 k_b1 b1 g10 X10 e10 E10 A_b1 E_b1
        have ge_b1 : n0 ≤ b1 := Nat.le_trans Z0 (Nat.le_of_eq g10.symm)
        have sz_b1 : h0.size ≤ b1 := Nat.le_trans K0.1 (Nat.le_of_eq g10.symm)
        have K0 := K0.ext E10
        have Z0 := own_sz Z0 E10
        have A_b1 : Arv Z h10 b1 k_b1 .byte (3 : Int32) [(.int (0 : Int32)), (.int (0 : Int32)), (.int (0 : Int32))] (.int (0 : Int32)) := A_b1
        show ownFin _ _ _ _ _ (T10.setTop (mkF m 101 #[.val (.long q1), .second, .val (.int p1), .val (.int (own_y q1 56)), .val (.int (own_y q1 48)), .val (.int (own_y q1 40)), .val (.int (own_y q1 32)), .val (.int (own_y q1 24)), .val (.int (own_y q1 16)), .val (.int (own_y q1 8)), .val (.int (own_y0 q1))] [(.ref b1)]))
        refine ownVia (fun _ k => XS.dup X10.here hx rfl (hb hby d1_101) rfl rfl k) ?_
        show ownFin _ _ _ _ _ (T10.setTop (mkF m 102 #[.val (.long q1), .second, .val (.int p1), .val (.int (own_y q1 56)), .val (.int (own_y q1 48)), .val (.int (own_y q1 40)), .val (.int (own_y q1 32)), .val (.int (own_y q1 24)), .val (.int (own_y q1 16)), .val (.int (own_y q1 8)), .val (.int (own_y0 q1))] [(.ref b1), (.ref b1)]))
        refine ownVia (fun _ k => XS.iconst X10.here hx rfl (hb hby d1_102) k) ?_
        show ownFin _ _ _ _ _ (T10.setTop (mkF m 103 #[.val (.long q1), .second, .val (.int p1), .val (.int (own_y q1 56)), .val (.int (own_y q1 48)), .val (.int (own_y q1 40)), .val (.int (own_y q1 32)), .val (.int (own_y q1 24)), .val (.int (own_y q1 16)), .val (.int (own_y q1 8)), .val (.int (own_y0 q1))] [(.int (0 : Int32)), (.ref b1), (.ref b1)]))
        refine ownVia (fun _ k => XS.iload X10.here hx rfl (hb hby d1_103) rfl k) ?_
        show ownFin _ _ _ _ _ (T10.setTop (mkF m 105 #[.val (.long q1), .second, .val (.int p1), .val (.int (own_y q1 56)), .val (.int (own_y q1 48)), .val (.int (own_y q1 40)), .val (.int (own_y q1 32)), .val (.int (own_y q1 24)), .val (.int (own_y q1 16)), .val (.int (own_y q1 8)), .val (.int (own_y0 q1))] [(.int (own_y q1 16)), (.int (0 : Int32)), (.ref b1), (.ref b1)]))
        refine ownBastore X10 hx hZ e10 A_b1 ⟨by decide, by decide⟩ (0) (by decide) (Nat.le_of_ble_eq_true rfl) N0 ge_b1 (hb hby d1_105) ?_
        intro T11 h11 L11 X11 e11 N11 W11 A_b1
        have E_b1 := E_b1.wr W11
        have K0 := K0.wr W11 (Or.inr sz_b1)
        have Z0 := own_szW Z0 W11
        have A_b1 : Arv Z h11 b1 k_b1 .byte (3 : Int32) [(.int (nar .byte (own_y q1 16))), (.int (0 : Int32)), (.int (0 : Int32))] (.int (0 : Int32)) := A_b1
        show ownFin _ _ _ _ _ (T11.setTop (mkF m 106 #[.val (.long q1), .second, .val (.int p1), .val (.int (own_y q1 56)), .val (.int (own_y q1 48)), .val (.int (own_y q1 40)), .val (.int (own_y q1 32)), .val (.int (own_y q1 24)), .val (.int (own_y q1 16)), .val (.int (own_y q1 8)), .val (.int (own_y0 q1))] [(.ref b1)]))
        refine ownVia (fun _ k => XS.dup X11.here hx rfl (hb hby d1_106) rfl rfl k) ?_
        show ownFin _ _ _ _ _ (T11.setTop (mkF m 107 #[.val (.long q1), .second, .val (.int p1), .val (.int (own_y q1 56)), .val (.int (own_y q1 48)), .val (.int (own_y q1 40)), .val (.int (own_y q1 32)), .val (.int (own_y q1 24)), .val (.int (own_y q1 16)), .val (.int (own_y q1 8)), .val (.int (own_y0 q1))] [(.ref b1), (.ref b1)]))
        refine ownVia (fun _ k => XS.iconst X11.here hx rfl (hb hby d1_107) k) ?_
        show ownFin _ _ _ _ _ (T11.setTop (mkF m 108 #[.val (.long q1), .second, .val (.int p1), .val (.int (own_y q1 56)), .val (.int (own_y q1 48)), .val (.int (own_y q1 40)), .val (.int (own_y q1 32)), .val (.int (own_y q1 24)), .val (.int (own_y q1 16)), .val (.int (own_y q1 8)), .val (.int (own_y0 q1))] [(.int (1 : Int32)), (.ref b1), (.ref b1)]))
        refine ownVia (fun _ k => XS.iload X11.here hx rfl (hb hby d1_108) rfl k) ?_
        show ownFin _ _ _ _ _ (T11.setTop (mkF m 110 #[.val (.long q1), .second, .val (.int p1), .val (.int (own_y q1 56)), .val (.int (own_y q1 48)), .val (.int (own_y q1 40)), .val (.int (own_y q1 32)), .val (.int (own_y q1 24)), .val (.int (own_y q1 16)), .val (.int (own_y q1 8)), .val (.int (own_y0 q1))] [(.int (own_y q1 8)), (.int (1 : Int32)), (.ref b1), (.ref b1)]))
        refine ownBastore X11 hx hZ e11 A_b1 ⟨by decide, by decide⟩ (1) (by decide) (Nat.le_of_ble_eq_true rfl) N11 ge_b1 (hb hby d1_110) ?_
        intro T12 h12 L12 X12 e12 N12 W12 A_b1
        have E_b1 := E_b1.wr W12
        have K0 := K0.wr W12 (Or.inr sz_b1)
        have Z0 := own_szW Z0 W12
        have A_b1 : Arv Z h12 b1 k_b1 .byte (3 : Int32) [(.int (nar .byte (own_y q1 16))), (.int (nar .byte (own_y q1 8))), (.int (0 : Int32))] (.int (0 : Int32)) := A_b1
        show ownFin _ _ _ _ _ (T12.setTop (mkF m 111 #[.val (.long q1), .second, .val (.int p1), .val (.int (own_y q1 56)), .val (.int (own_y q1 48)), .val (.int (own_y q1 40)), .val (.int (own_y q1 32)), .val (.int (own_y q1 24)), .val (.int (own_y q1 16)), .val (.int (own_y q1 8)), .val (.int (own_y0 q1))] [(.ref b1)]))
        refine ownVia (fun _ k => XS.dup X12.here hx rfl (hb hby d1_111) rfl rfl k) ?_
        show ownFin _ _ _ _ _ (T12.setTop (mkF m 112 #[.val (.long q1), .second, .val (.int p1), .val (.int (own_y q1 56)), .val (.int (own_y q1 48)), .val (.int (own_y q1 40)), .val (.int (own_y q1 32)), .val (.int (own_y q1 24)), .val (.int (own_y q1 16)), .val (.int (own_y q1 8)), .val (.int (own_y0 q1))] [(.ref b1), (.ref b1)]))
        refine ownVia (fun _ k => XS.iconst X12.here hx rfl (hb hby d1_112) k) ?_
        show ownFin _ _ _ _ _ (T12.setTop (mkF m 113 #[.val (.long q1), .second, .val (.int p1), .val (.int (own_y q1 56)), .val (.int (own_y q1 48)), .val (.int (own_y q1 40)), .val (.int (own_y q1 32)), .val (.int (own_y q1 24)), .val (.int (own_y q1 16)), .val (.int (own_y q1 8)), .val (.int (own_y0 q1))] [(.int (2 : Int32)), (.ref b1), (.ref b1)]))
        refine ownVia (fun _ k => XS.iload X12.here hx rfl (hb hby d1_113) rfl k) ?_
        show ownFin _ _ _ _ _ (T12.setTop (mkF m 115 #[.val (.long q1), .second, .val (.int p1), .val (.int (own_y q1 56)), .val (.int (own_y q1 48)), .val (.int (own_y q1 40)), .val (.int (own_y q1 32)), .val (.int (own_y q1 24)), .val (.int (own_y q1 16)), .val (.int (own_y q1 8)), .val (.int (own_y0 q1))] [(.int (own_y0 q1)), (.int (2 : Int32)), (.ref b1), (.ref b1)]))
        refine ownBastore X12 hx hZ e12 A_b1 ⟨by decide, by decide⟩ (2) (by decide) (Nat.le_of_ble_eq_true rfl) N12 ge_b1 (hb hby d1_115) ?_
        intro T13 h13 L13 X13 e13 N13 W13 A_b1
        have E_b1 := E_b1.wr W13
        have K0 := K0.wr W13 (Or.inr sz_b1)
        have Z0 := own_szW Z0 W13
        have A_b1 : Arv Z h13 b1 k_b1 .byte (3 : Int32) [(.int (nar .byte (own_y q1 16))), (.int (nar .byte (own_y q1 8))), (.int (nar .byte (own_y0 q1)))] (.int (0 : Int32)) := A_b1
        show ownFin _ _ _ _ _ (T13.setTop (mkF m 116 #[.val (.long q1), .second, .val (.int p1), .val (.int (own_y q1 56)), .val (.int (own_y q1 48)), .val (.int (own_y q1 40)), .val (.int (own_y q1 32)), .val (.int (own_y q1 24)), .val (.int (own_y q1 16)), .val (.int (own_y q1 8)), .val (.int (own_y0 q1))] [(.ref b1)]))
        have hMN : M = 3 := by omega
        refine ownRetA X13 hx hlk (ty := (.array .byte)) hret rfl (hb hby d1_116) (by decide) (by decide) ?_
        show (Q_own_octets Z q1 p1 h0 n0 M) (some (.ref b1)) T13.heap _
        rw [e13]
        exact ⟨b1, k_b1, rfl, N13, K0, sz_b1, E_b1, by rw [(own_lit hM (by rw [hMN]; decide) : p1 = (3 : Int32)), hMN]; exact A_b1⟩
      case neg =>
        have hc9I : ¬ (M : Int) = 3 := fun q => hc9 ((own_eqi hM (by decide)).mpr q)
        refine ownVia (fun _ k => XS.icmpYes X0.here hx rfl (pc0 := 95) (pc' := 117) rfl (hb hby d1_95) rfl (feq hc9).2 (by decide) (by decide) k) ?_
        show ownFin _ _ _ _ _ (T0.setTop (mkF m 117 #[.val (.long q1), .second, .val (.int p1), .val (.int (own_y q1 56)), .val (.int (own_y q1 48)), .val (.int (own_y q1 40)), .val (.int (own_y q1 32)), .val (.int (own_y q1 24)), .val (.int (own_y q1 16)), .val (.int (own_y q1 8)), .val (.int (own_y0 q1))] []))
        refine ownVia (fun _ k => XS.iloadN X0.here hx rfl (hb hby d1_117) rfl k) ?_
        show ownFin _ _ _ _ _ (T0.setTop (mkF m 118 #[.val (.long q1), .second, .val (.int p1), .val (.int (own_y q1 56)), .val (.int (own_y q1 48)), .val (.int (own_y q1 40)), .val (.int (own_y q1 32)), .val (.int (own_y q1 24)), .val (.int (own_y q1 16)), .val (.int (own_y q1 8)), .val (.int (own_y0 q1))] [(.int p1)]))
        refine ownVia (fun _ k => XS.iconst X0.here hx rfl (hb hby d1_118) k) ?_
        show ownFin _ _ _ _ _ (T0.setTop (mkF m 119 #[.val (.long q1), .second, .val (.int p1), .val (.int (own_y q1 56)), .val (.int (own_y q1 48)), .val (.int (own_y q1 40)), .val (.int (own_y q1 32)), .val (.int (own_y q1 24)), .val (.int (own_y q1 16)), .val (.int (own_y q1 8)), .val (.int (own_y0 q1))] [(.int (4 : Int32)), (.int p1)]))
        by_cases hc14 : p1 = (4 : Int32)
        case pos =>
          have hc14I : (M : Int) = 4 := (own_eqi hM (by decide)).mp hc14
          refine ownVia (fun _ k => XS.icmpNo X0.here hx rfl (hb hby d1_119) rfl (teq hc14).2 k) ?_
          show ownFin _ _ _ _ _ (T0.setTop (mkF m 122 #[.val (.long q1), .second, .val (.int p1), .val (.int (own_y q1 56)), .val (.int (own_y q1 48)), .val (.int (own_y q1 40)), .val (.int (own_y q1 32)), .val (.int (own_y q1 24)), .val (.int (own_y q1 16)), .val (.int (own_y q1 8)), .val (.int (own_y0 q1))] []))
          refine ownVia (fun _ k => XS.iconst X0.here hx rfl (hb hby d1_122) k) ?_
          show ownFin _ _ _ _ _ (T0.setTop (mkF m 123 #[.val (.long q1), .second, .val (.int p1), .val (.int (own_y q1 56)), .val (.int (own_y q1 48)), .val (.int (own_y q1 40)), .val (.int (own_y q1 32)), .val (.int (own_y q1 24)), .val (.int (own_y q1 16)), .val (.int (own_y q1 8)), .val (.int (own_y0 q1))] [(.int (4 : Int32))]))
          refine ownNewP X0 hx hZ (hw _ (List.mem_of_getElem? (i := 8) rfl)) e0 "[B" (by decide) (by decide) (4) (by decide) (8) (by decide) (by decide) (by decide) (by decide) (hb hby d1_123) ?_
          intro T15 h15 k_b1 b1 g15 X15 e15 E15 A_b1 E_b1
          have ge_b1 : n0 ≤ b1 := Nat.le_trans Z0 (Nat.le_of_eq g15.symm)
          have sz_b1 : h0.size ≤ b1 := Nat.le_trans K0.1 (Nat.le_of_eq g15.symm)
          have K0 := K0.ext E15
          have Z0 := own_sz Z0 E15
          have A_b1 : Arv Z h15 b1 k_b1 .byte (4 : Int32) [(.int (0 : Int32)), (.int (0 : Int32)), (.int (0 : Int32)), (.int (0 : Int32))] (.int (0 : Int32)) := A_b1
          show ownFin _ _ _ _ _ (T15.setTop (mkF m 125 #[.val (.long q1), .second, .val (.int p1), .val (.int (own_y q1 56)), .val (.int (own_y q1 48)), .val (.int (own_y q1 40)), .val (.int (own_y q1 32)), .val (.int (own_y q1 24)), .val (.int (own_y q1 16)), .val (.int (own_y q1 8)), .val (.int (own_y0 q1))] [(.ref b1)]))
          refine ownVia (fun _ k => XS.dup X15.here hx rfl (hb hby d1_125) rfl rfl k) ?_
          show ownFin _ _ _ _ _ (T15.setTop (mkF m 126 #[.val (.long q1), .second, .val (.int p1), .val (.int (own_y q1 56)), .val (.int (own_y q1 48)), .val (.int (own_y q1 40)), .val (.int (own_y q1 32)), .val (.int (own_y q1 24)), .val (.int (own_y q1 16)), .val (.int (own_y q1 8)), .val (.int (own_y0 q1))] [(.ref b1), (.ref b1)]))
          refine ownVia (fun _ k => XS.iconst X15.here hx rfl (hb hby d1_126) k) ?_
          show ownFin _ _ _ _ _ (T15.setTop (mkF m 127 #[.val (.long q1), .second, .val (.int p1), .val (.int (own_y q1 56)), .val (.int (own_y q1 48)), .val (.int (own_y q1 40)), .val (.int (own_y q1 32)), .val (.int (own_y q1 24)), .val (.int (own_y q1 16)), .val (.int (own_y q1 8)), .val (.int (own_y0 q1))] [(.int (0 : Int32)), (.ref b1), (.ref b1)]))
          refine ownVia (fun _ k => XS.iload X15.here hx rfl (hb hby d1_127) rfl k) ?_
          show ownFin _ _ _ _ _ (T15.setTop (mkF m 129 #[.val (.long q1), .second, .val (.int p1), .val (.int (own_y q1 56)), .val (.int (own_y q1 48)), .val (.int (own_y q1 40)), .val (.int (own_y q1 32)), .val (.int (own_y q1 24)), .val (.int (own_y q1 16)), .val (.int (own_y q1 8)), .val (.int (own_y0 q1))] [(.int (own_y q1 24)), (.int (0 : Int32)), (.ref b1), (.ref b1)]))
          refine ownBastore X15 hx hZ e15 A_b1 ⟨by decide, by decide⟩ (0) (by decide) (Nat.le_of_ble_eq_true rfl) N0 ge_b1 (hb hby d1_129) ?_
          intro T16 h16 L16 X16 e16 N16 W16 A_b1
          have E_b1 := E_b1.wr W16
          have K0 := K0.wr W16 (Or.inr sz_b1)
          have Z0 := own_szW Z0 W16
          have A_b1 : Arv Z h16 b1 k_b1 .byte (4 : Int32) [(.int (nar .byte (own_y q1 24))), (.int (0 : Int32)), (.int (0 : Int32)), (.int (0 : Int32))] (.int (0 : Int32)) := A_b1
          show ownFin _ _ _ _ _ (T16.setTop (mkF m 130 #[.val (.long q1), .second, .val (.int p1), .val (.int (own_y q1 56)), .val (.int (own_y q1 48)), .val (.int (own_y q1 40)), .val (.int (own_y q1 32)), .val (.int (own_y q1 24)), .val (.int (own_y q1 16)), .val (.int (own_y q1 8)), .val (.int (own_y0 q1))] [(.ref b1)]))
          refine ownVia (fun _ k => XS.dup X16.here hx rfl (hb hby d1_130) rfl rfl k) ?_
          show ownFin _ _ _ _ _ (T16.setTop (mkF m 131 #[.val (.long q1), .second, .val (.int p1), .val (.int (own_y q1 56)), .val (.int (own_y q1 48)), .val (.int (own_y q1 40)), .val (.int (own_y q1 32)), .val (.int (own_y q1 24)), .val (.int (own_y q1 16)), .val (.int (own_y q1 8)), .val (.int (own_y0 q1))] [(.ref b1), (.ref b1)]))
          refine ownVia (fun _ k => XS.iconst X16.here hx rfl (hb hby d1_131) k) ?_
          show ownFin _ _ _ _ _ (T16.setTop (mkF m 132 #[.val (.long q1), .second, .val (.int p1), .val (.int (own_y q1 56)), .val (.int (own_y q1 48)), .val (.int (own_y q1 40)), .val (.int (own_y q1 32)), .val (.int (own_y q1 24)), .val (.int (own_y q1 16)), .val (.int (own_y q1 8)), .val (.int (own_y0 q1))] [(.int (1 : Int32)), (.ref b1), (.ref b1)]))
          refine ownVia (fun _ k => XS.iload X16.here hx rfl (hb hby d1_132) rfl k) ?_
          show ownFin _ _ _ _ _ (T16.setTop (mkF m 134 #[.val (.long q1), .second, .val (.int p1), .val (.int (own_y q1 56)), .val (.int (own_y q1 48)), .val (.int (own_y q1 40)), .val (.int (own_y q1 32)), .val (.int (own_y q1 24)), .val (.int (own_y q1 16)), .val (.int (own_y q1 8)), .val (.int (own_y0 q1))] [(.int (own_y q1 16)), (.int (1 : Int32)), (.ref b1), (.ref b1)]))
          refine ownBastore X16 hx hZ e16 A_b1 ⟨by decide, by decide⟩ (1) (by decide) (Nat.le_of_ble_eq_true rfl) N16 ge_b1 (hb hby d1_134) ?_
          intro T17 h17 L17 X17 e17 N17 W17 A_b1
          have E_b1 := E_b1.wr W17
          have K0 := K0.wr W17 (Or.inr sz_b1)
          have Z0 := own_szW Z0 W17
          have A_b1 : Arv Z h17 b1 k_b1 .byte (4 : Int32) [(.int (nar .byte (own_y q1 24))), (.int (nar .byte (own_y q1 16))), (.int (0 : Int32)), (.int (0 : Int32))] (.int (0 : Int32)) := A_b1
          show ownFin _ _ _ _ _ (T17.setTop (mkF m 135 #[.val (.long q1), .second, .val (.int p1), .val (.int (own_y q1 56)), .val (.int (own_y q1 48)), .val (.int (own_y q1 40)), .val (.int (own_y q1 32)), .val (.int (own_y q1 24)), .val (.int (own_y q1 16)), .val (.int (own_y q1 8)), .val (.int (own_y0 q1))] [(.ref b1)]))
          refine ownVia (fun _ k => XS.dup X17.here hx rfl (hb hby d1_135) rfl rfl k) ?_
          show ownFin _ _ _ _ _ (T17.setTop (mkF m 136 #[.val (.long q1), .second, .val (.int p1), .val (.int (own_y q1 56)), .val (.int (own_y q1 48)), .val (.int (own_y q1 40)), .val (.int (own_y q1 32)), .val (.int (own_y q1 24)), .val (.int (own_y q1 16)), .val (.int (own_y q1 8)), .val (.int (own_y0 q1))] [(.ref b1), (.ref b1)]))
          refine ownVia (fun _ k => XS.iconst X17.here hx rfl (hb hby d1_136) k) ?_
          show ownFin _ _ _ _ _ (T17.setTop (mkF m 137 #[.val (.long q1), .second, .val (.int p1), .val (.int (own_y q1 56)), .val (.int (own_y q1 48)), .val (.int (own_y q1 40)), .val (.int (own_y q1 32)), .val (.int (own_y q1 24)), .val (.int (own_y q1 16)), .val (.int (own_y q1 8)), .val (.int (own_y0 q1))] [(.int (2 : Int32)), (.ref b1), (.ref b1)]))
          refine ownVia (fun _ k => XS.iload X17.here hx rfl (hb hby d1_137) rfl k) ?_
          show ownFin _ _ _ _ _ (T17.setTop (mkF m 139 #[.val (.long q1), .second, .val (.int p1), .val (.int (own_y q1 56)), .val (.int (own_y q1 48)), .val (.int (own_y q1 40)), .val (.int (own_y q1 32)), .val (.int (own_y q1 24)), .val (.int (own_y q1 16)), .val (.int (own_y q1 8)), .val (.int (own_y0 q1))] [(.int (own_y q1 8)), (.int (2 : Int32)), (.ref b1), (.ref b1)]))
          refine ownBastore X17 hx hZ e17 A_b1 ⟨by decide, by decide⟩ (2) (by decide) (Nat.le_of_ble_eq_true rfl) N17 ge_b1 (hb hby d1_139) ?_
          intro T18 h18 L18 X18 e18 N18 W18 A_b1
          have E_b1 := E_b1.wr W18
          have K0 := K0.wr W18 (Or.inr sz_b1)
          have Z0 := own_szW Z0 W18
          have A_b1 : Arv Z h18 b1 k_b1 .byte (4 : Int32) [(.int (nar .byte (own_y q1 24))), (.int (nar .byte (own_y q1 16))), (.int (nar .byte (own_y q1 8))), (.int (0 : Int32))] (.int (0 : Int32)) := A_b1
          show ownFin _ _ _ _ _ (T18.setTop (mkF m 140 #[.val (.long q1), .second, .val (.int p1), .val (.int (own_y q1 56)), .val (.int (own_y q1 48)), .val (.int (own_y q1 40)), .val (.int (own_y q1 32)), .val (.int (own_y q1 24)), .val (.int (own_y q1 16)), .val (.int (own_y q1 8)), .val (.int (own_y0 q1))] [(.ref b1)]))
          refine ownVia (fun _ k => XS.dup X18.here hx rfl (hb hby d1_140) rfl rfl k) ?_
          show ownFin _ _ _ _ _ (T18.setTop (mkF m 141 #[.val (.long q1), .second, .val (.int p1), .val (.int (own_y q1 56)), .val (.int (own_y q1 48)), .val (.int (own_y q1 40)), .val (.int (own_y q1 32)), .val (.int (own_y q1 24)), .val (.int (own_y q1 16)), .val (.int (own_y q1 8)), .val (.int (own_y0 q1))] [(.ref b1), (.ref b1)]))
          refine ownVia (fun _ k => XS.iconst X18.here hx rfl (hb hby d1_141) k) ?_
          show ownFin _ _ _ _ _ (T18.setTop (mkF m 142 #[.val (.long q1), .second, .val (.int p1), .val (.int (own_y q1 56)), .val (.int (own_y q1 48)), .val (.int (own_y q1 40)), .val (.int (own_y q1 32)), .val (.int (own_y q1 24)), .val (.int (own_y q1 16)), .val (.int (own_y q1 8)), .val (.int (own_y0 q1))] [(.int (3 : Int32)), (.ref b1), (.ref b1)]))
          refine ownVia (fun _ k => XS.iload X18.here hx rfl (hb hby d1_142) rfl k) ?_
          show ownFin _ _ _ _ _ (T18.setTop (mkF m 144 #[.val (.long q1), .second, .val (.int p1), .val (.int (own_y q1 56)), .val (.int (own_y q1 48)), .val (.int (own_y q1 40)), .val (.int (own_y q1 32)), .val (.int (own_y q1 24)), .val (.int (own_y q1 16)), .val (.int (own_y q1 8)), .val (.int (own_y0 q1))] [(.int (own_y0 q1)), (.int (3 : Int32)), (.ref b1), (.ref b1)]))
          refine ownBastore X18 hx hZ e18 A_b1 ⟨by decide, by decide⟩ (3) (by decide) (Nat.le_of_ble_eq_true rfl) N18 ge_b1 (hb hby d1_144) ?_
          intro T19 h19 L19 X19 e19 N19 W19 A_b1
          have E_b1 := E_b1.wr W19
          have K0 := K0.wr W19 (Or.inr sz_b1)
          have Z0 := own_szW Z0 W19
          have A_b1 : Arv Z h19 b1 k_b1 .byte (4 : Int32) [(.int (nar .byte (own_y q1 24))), (.int (nar .byte (own_y q1 16))), (.int (nar .byte (own_y q1 8))), (.int (nar .byte (own_y0 q1)))] (.int (0 : Int32)) := A_b1
          show ownFin _ _ _ _ _ (T19.setTop (mkF m 145 #[.val (.long q1), .second, .val (.int p1), .val (.int (own_y q1 56)), .val (.int (own_y q1 48)), .val (.int (own_y q1 40)), .val (.int (own_y q1 32)), .val (.int (own_y q1 24)), .val (.int (own_y q1 16)), .val (.int (own_y q1 8)), .val (.int (own_y0 q1))] [(.ref b1)]))
          have hMN : M = 4 := by omega
          refine ownRetA X19 hx hlk (ty := (.array .byte)) hret rfl (hb hby d1_145) (by decide) (by decide) ?_
          show (Q_own_octets Z q1 p1 h0 n0 M) (some (.ref b1)) T19.heap _
          rw [e19]
          exact ⟨b1, k_b1, rfl, N19, K0, sz_b1, E_b1, by rw [(own_lit hM (by rw [hMN]; decide) : p1 = (4 : Int32)), hMN]; exact A_b1⟩
        case neg =>
          have hc14I : ¬ (M : Int) = 4 := fun q => hc14 ((own_eqi hM (by decide)).mpr q)
          refine ownVia (fun _ k => XS.icmpYes X0.here hx rfl (pc0 := 119) (pc' := 146) rfl (hb hby d1_119) rfl (feq hc14).2 (by decide) (by decide) k) ?_
          show ownFin _ _ _ _ _ (T0.setTop (mkF m 146 #[.val (.long q1), .second, .val (.int p1), .val (.int (own_y q1 56)), .val (.int (own_y q1 48)), .val (.int (own_y q1 40)), .val (.int (own_y q1 32)), .val (.int (own_y q1 24)), .val (.int (own_y q1 16)), .val (.int (own_y q1 8)), .val (.int (own_y0 q1))] []))
          refine ownVia (fun _ k => XS.iloadN X0.here hx rfl (hb hby d1_146) rfl k) ?_
          show ownFin _ _ _ _ _ (T0.setTop (mkF m 147 #[.val (.long q1), .second, .val (.int p1), .val (.int (own_y q1 56)), .val (.int (own_y q1 48)), .val (.int (own_y q1 40)), .val (.int (own_y q1 32)), .val (.int (own_y q1 24)), .val (.int (own_y q1 16)), .val (.int (own_y q1 8)), .val (.int (own_y0 q1))] [(.int p1)]))
          refine ownVia (fun _ k => XS.iconst X0.here hx rfl (hb hby d1_147) k) ?_
          show ownFin _ _ _ _ _ (T0.setTop (mkF m 148 #[.val (.long q1), .second, .val (.int p1), .val (.int (own_y q1 56)), .val (.int (own_y q1 48)), .val (.int (own_y q1 40)), .val (.int (own_y q1 32)), .val (.int (own_y q1 24)), .val (.int (own_y q1 16)), .val (.int (own_y q1 8)), .val (.int (own_y0 q1))] [(.int (5 : Int32)), (.int p1)]))
          by_cases hc20 : p1 = (5 : Int32)
          case pos =>
            have hc20I : (M : Int) = 5 := (own_eqi hM (by decide)).mp hc20
            refine ownVia (fun _ k => XS.icmpNo X0.here hx rfl (hb hby d1_148) rfl (teq hc20).2 k) ?_
            show ownFin _ _ _ _ _ (T0.setTop (mkF m 151 #[.val (.long q1), .second, .val (.int p1), .val (.int (own_y q1 56)), .val (.int (own_y q1 48)), .val (.int (own_y q1 40)), .val (.int (own_y q1 32)), .val (.int (own_y q1 24)), .val (.int (own_y q1 16)), .val (.int (own_y q1 8)), .val (.int (own_y0 q1))] []))
            refine ownVia (fun _ k => XS.iconst X0.here hx rfl (hb hby d1_151) k) ?_
            show ownFin _ _ _ _ _ (T0.setTop (mkF m 152 #[.val (.long q1), .second, .val (.int p1), .val (.int (own_y q1 56)), .val (.int (own_y q1 48)), .val (.int (own_y q1 40)), .val (.int (own_y q1 32)), .val (.int (own_y q1 24)), .val (.int (own_y q1 16)), .val (.int (own_y q1 8)), .val (.int (own_y0 q1))] [(.int (5 : Int32))]))
            refine ownNewP X0 hx hZ (hw _ (List.mem_of_getElem? (i := 8) rfl)) e0 "[B" (by decide) (by decide) (5) (by decide) (8) (by decide) (by decide) (by decide) (by decide) (hb hby d1_152) ?_
            intro T21 h21 k_b1 b1 g21 X21 e21 E21 A_b1 E_b1
            have ge_b1 : n0 ≤ b1 := Nat.le_trans Z0 (Nat.le_of_eq g21.symm)
            have sz_b1 : h0.size ≤ b1 := Nat.le_trans K0.1 (Nat.le_of_eq g21.symm)
            have K0 := K0.ext E21
            have Z0 := own_sz Z0 E21
            have A_b1 : Arv Z h21 b1 k_b1 .byte (5 : Int32) [(.int (0 : Int32)), (.int (0 : Int32)), (.int (0 : Int32)), (.int (0 : Int32)), (.int (0 : Int32))] (.int (0 : Int32)) := A_b1
            show ownFin _ _ _ _ _ (T21.setTop (mkF m 154 #[.val (.long q1), .second, .val (.int p1), .val (.int (own_y q1 56)), .val (.int (own_y q1 48)), .val (.int (own_y q1 40)), .val (.int (own_y q1 32)), .val (.int (own_y q1 24)), .val (.int (own_y q1 16)), .val (.int (own_y q1 8)), .val (.int (own_y0 q1))] [(.ref b1)]))
            refine ownVia (fun _ k => XS.dup X21.here hx rfl (hb hby d1_154) rfl rfl k) ?_
            show ownFin _ _ _ _ _ (T21.setTop (mkF m 155 #[.val (.long q1), .second, .val (.int p1), .val (.int (own_y q1 56)), .val (.int (own_y q1 48)), .val (.int (own_y q1 40)), .val (.int (own_y q1 32)), .val (.int (own_y q1 24)), .val (.int (own_y q1 16)), .val (.int (own_y q1 8)), .val (.int (own_y0 q1))] [(.ref b1), (.ref b1)]))
            refine ownVia (fun _ k => XS.iconst X21.here hx rfl (hb hby d1_155) k) ?_
            show ownFin _ _ _ _ _ (T21.setTop (mkF m 156 #[.val (.long q1), .second, .val (.int p1), .val (.int (own_y q1 56)), .val (.int (own_y q1 48)), .val (.int (own_y q1 40)), .val (.int (own_y q1 32)), .val (.int (own_y q1 24)), .val (.int (own_y q1 16)), .val (.int (own_y q1 8)), .val (.int (own_y0 q1))] [(.int (0 : Int32)), (.ref b1), (.ref b1)]))
            refine ownVia (fun _ k => XS.iload X21.here hx rfl (hb hby d1_156) rfl k) ?_
            show ownFin _ _ _ _ _ (T21.setTop (mkF m 158 #[.val (.long q1), .second, .val (.int p1), .val (.int (own_y q1 56)), .val (.int (own_y q1 48)), .val (.int (own_y q1 40)), .val (.int (own_y q1 32)), .val (.int (own_y q1 24)), .val (.int (own_y q1 16)), .val (.int (own_y q1 8)), .val (.int (own_y0 q1))] [(.int (own_y q1 32)), (.int (0 : Int32)), (.ref b1), (.ref b1)]))
            refine ownBastore X21 hx hZ e21 A_b1 ⟨by decide, by decide⟩ (0) (by decide) (Nat.le_of_ble_eq_true rfl) N0 ge_b1 (hb hby d1_158) ?_
            intro T22 h22 L22 X22 e22 N22 W22 A_b1
            have E_b1 := E_b1.wr W22
            have K0 := K0.wr W22 (Or.inr sz_b1)
            have Z0 := own_szW Z0 W22
            have A_b1 : Arv Z h22 b1 k_b1 .byte (5 : Int32) [(.int (nar .byte (own_y q1 32))), (.int (0 : Int32)), (.int (0 : Int32)), (.int (0 : Int32)), (.int (0 : Int32))] (.int (0 : Int32)) := A_b1
            show ownFin _ _ _ _ _ (T22.setTop (mkF m 159 #[.val (.long q1), .second, .val (.int p1), .val (.int (own_y q1 56)), .val (.int (own_y q1 48)), .val (.int (own_y q1 40)), .val (.int (own_y q1 32)), .val (.int (own_y q1 24)), .val (.int (own_y q1 16)), .val (.int (own_y q1 8)), .val (.int (own_y0 q1))] [(.ref b1)]))
            refine ownVia (fun _ k => XS.dup X22.here hx rfl (hb hby d1_159) rfl rfl k) ?_
            show ownFin _ _ _ _ _ (T22.setTop (mkF m 160 #[.val (.long q1), .second, .val (.int p1), .val (.int (own_y q1 56)), .val (.int (own_y q1 48)), .val (.int (own_y q1 40)), .val (.int (own_y q1 32)), .val (.int (own_y q1 24)), .val (.int (own_y q1 16)), .val (.int (own_y q1 8)), .val (.int (own_y0 q1))] [(.ref b1), (.ref b1)]))
            refine ownVia (fun _ k => XS.iconst X22.here hx rfl (hb hby d1_160) k) ?_
            show ownFin _ _ _ _ _ (T22.setTop (mkF m 161 #[.val (.long q1), .second, .val (.int p1), .val (.int (own_y q1 56)), .val (.int (own_y q1 48)), .val (.int (own_y q1 40)), .val (.int (own_y q1 32)), .val (.int (own_y q1 24)), .val (.int (own_y q1 16)), .val (.int (own_y q1 8)), .val (.int (own_y0 q1))] [(.int (1 : Int32)), (.ref b1), (.ref b1)]))
            refine ownVia (fun _ k => XS.iload X22.here hx rfl (hb hby d1_161) rfl k) ?_
            show ownFin _ _ _ _ _ (T22.setTop (mkF m 163 #[.val (.long q1), .second, .val (.int p1), .val (.int (own_y q1 56)), .val (.int (own_y q1 48)), .val (.int (own_y q1 40)), .val (.int (own_y q1 32)), .val (.int (own_y q1 24)), .val (.int (own_y q1 16)), .val (.int (own_y q1 8)), .val (.int (own_y0 q1))] [(.int (own_y q1 24)), (.int (1 : Int32)), (.ref b1), (.ref b1)]))
            refine ownBastore X22 hx hZ e22 A_b1 ⟨by decide, by decide⟩ (1) (by decide) (Nat.le_of_ble_eq_true rfl) N22 ge_b1 (hb hby d1_163) ?_
            intro T23 h23 L23 X23 e23 N23 W23 A_b1
            have E_b1 := E_b1.wr W23
            have K0 := K0.wr W23 (Or.inr sz_b1)
            have Z0 := own_szW Z0 W23
            have A_b1 : Arv Z h23 b1 k_b1 .byte (5 : Int32) [(.int (nar .byte (own_y q1 32))), (.int (nar .byte (own_y q1 24))), (.int (0 : Int32)), (.int (0 : Int32)), (.int (0 : Int32))] (.int (0 : Int32)) := A_b1
            show ownFin _ _ _ _ _ (T23.setTop (mkF m 164 #[.val (.long q1), .second, .val (.int p1), .val (.int (own_y q1 56)), .val (.int (own_y q1 48)), .val (.int (own_y q1 40)), .val (.int (own_y q1 32)), .val (.int (own_y q1 24)), .val (.int (own_y q1 16)), .val (.int (own_y q1 8)), .val (.int (own_y0 q1))] [(.ref b1)]))
            refine ownVia (fun _ k => XS.dup X23.here hx rfl (hb hby d1_164) rfl rfl k) ?_
            show ownFin _ _ _ _ _ (T23.setTop (mkF m 165 #[.val (.long q1), .second, .val (.int p1), .val (.int (own_y q1 56)), .val (.int (own_y q1 48)), .val (.int (own_y q1 40)), .val (.int (own_y q1 32)), .val (.int (own_y q1 24)), .val (.int (own_y q1 16)), .val (.int (own_y q1 8)), .val (.int (own_y0 q1))] [(.ref b1), (.ref b1)]))
            refine ownVia (fun _ k => XS.iconst X23.here hx rfl (hb hby d1_165) k) ?_
            show ownFin _ _ _ _ _ (T23.setTop (mkF m 166 #[.val (.long q1), .second, .val (.int p1), .val (.int (own_y q1 56)), .val (.int (own_y q1 48)), .val (.int (own_y q1 40)), .val (.int (own_y q1 32)), .val (.int (own_y q1 24)), .val (.int (own_y q1 16)), .val (.int (own_y q1 8)), .val (.int (own_y0 q1))] [(.int (2 : Int32)), (.ref b1), (.ref b1)]))
            refine ownVia (fun _ k => XS.iload X23.here hx rfl (hb hby d1_166) rfl k) ?_
            show ownFin _ _ _ _ _ (T23.setTop (mkF m 168 #[.val (.long q1), .second, .val (.int p1), .val (.int (own_y q1 56)), .val (.int (own_y q1 48)), .val (.int (own_y q1 40)), .val (.int (own_y q1 32)), .val (.int (own_y q1 24)), .val (.int (own_y q1 16)), .val (.int (own_y q1 8)), .val (.int (own_y0 q1))] [(.int (own_y q1 16)), (.int (2 : Int32)), (.ref b1), (.ref b1)]))
            refine ownBastore X23 hx hZ e23 A_b1 ⟨by decide, by decide⟩ (2) (by decide) (Nat.le_of_ble_eq_true rfl) N23 ge_b1 (hb hby d1_168) ?_
            intro T24 h24 L24 X24 e24 N24 W24 A_b1
            have E_b1 := E_b1.wr W24
            have K0 := K0.wr W24 (Or.inr sz_b1)
            have Z0 := own_szW Z0 W24
            have A_b1 : Arv Z h24 b1 k_b1 .byte (5 : Int32) [(.int (nar .byte (own_y q1 32))), (.int (nar .byte (own_y q1 24))), (.int (nar .byte (own_y q1 16))), (.int (0 : Int32)), (.int (0 : Int32))] (.int (0 : Int32)) := A_b1
            show ownFin _ _ _ _ _ (T24.setTop (mkF m 169 #[.val (.long q1), .second, .val (.int p1), .val (.int (own_y q1 56)), .val (.int (own_y q1 48)), .val (.int (own_y q1 40)), .val (.int (own_y q1 32)), .val (.int (own_y q1 24)), .val (.int (own_y q1 16)), .val (.int (own_y q1 8)), .val (.int (own_y0 q1))] [(.ref b1)]))
            refine ownVia (fun _ k => XS.dup X24.here hx rfl (hb hby d1_169) rfl rfl k) ?_
            show ownFin _ _ _ _ _ (T24.setTop (mkF m 170 #[.val (.long q1), .second, .val (.int p1), .val (.int (own_y q1 56)), .val (.int (own_y q1 48)), .val (.int (own_y q1 40)), .val (.int (own_y q1 32)), .val (.int (own_y q1 24)), .val (.int (own_y q1 16)), .val (.int (own_y q1 8)), .val (.int (own_y0 q1))] [(.ref b1), (.ref b1)]))
            refine ownVia (fun _ k => XS.iconst X24.here hx rfl (hb hby d1_170) k) ?_
            show ownFin _ _ _ _ _ (T24.setTop (mkF m 171 #[.val (.long q1), .second, .val (.int p1), .val (.int (own_y q1 56)), .val (.int (own_y q1 48)), .val (.int (own_y q1 40)), .val (.int (own_y q1 32)), .val (.int (own_y q1 24)), .val (.int (own_y q1 16)), .val (.int (own_y q1 8)), .val (.int (own_y0 q1))] [(.int (3 : Int32)), (.ref b1), (.ref b1)]))
            refine ownVia (fun _ k => XS.iload X24.here hx rfl (hb hby d1_171) rfl k) ?_
            show ownFin _ _ _ _ _ (T24.setTop (mkF m 173 #[.val (.long q1), .second, .val (.int p1), .val (.int (own_y q1 56)), .val (.int (own_y q1 48)), .val (.int (own_y q1 40)), .val (.int (own_y q1 32)), .val (.int (own_y q1 24)), .val (.int (own_y q1 16)), .val (.int (own_y q1 8)), .val (.int (own_y0 q1))] [(.int (own_y q1 8)), (.int (3 : Int32)), (.ref b1), (.ref b1)]))
            refine ownBastore X24 hx hZ e24 A_b1 ⟨by decide, by decide⟩ (3) (by decide) (Nat.le_of_ble_eq_true rfl) N24 ge_b1 (hb hby d1_173) ?_
            intro T25 h25 L25 X25 e25 N25 W25 A_b1
            have E_b1 := E_b1.wr W25
            have K0 := K0.wr W25 (Or.inr sz_b1)
            have Z0 := own_szW Z0 W25
            have A_b1 : Arv Z h25 b1 k_b1 .byte (5 : Int32) [(.int (nar .byte (own_y q1 32))), (.int (nar .byte (own_y q1 24))), (.int (nar .byte (own_y q1 16))), (.int (nar .byte (own_y q1 8))), (.int (0 : Int32))] (.int (0 : Int32)) := A_b1
            show ownFin _ _ _ _ _ (T25.setTop (mkF m 174 #[.val (.long q1), .second, .val (.int p1), .val (.int (own_y q1 56)), .val (.int (own_y q1 48)), .val (.int (own_y q1 40)), .val (.int (own_y q1 32)), .val (.int (own_y q1 24)), .val (.int (own_y q1 16)), .val (.int (own_y q1 8)), .val (.int (own_y0 q1))] [(.ref b1)]))
            refine ownVia (fun _ k => XS.dup X25.here hx rfl (hb hby d1_174) rfl rfl k) ?_
            show ownFin _ _ _ _ _ (T25.setTop (mkF m 175 #[.val (.long q1), .second, .val (.int p1), .val (.int (own_y q1 56)), .val (.int (own_y q1 48)), .val (.int (own_y q1 40)), .val (.int (own_y q1 32)), .val (.int (own_y q1 24)), .val (.int (own_y q1 16)), .val (.int (own_y q1 8)), .val (.int (own_y0 q1))] [(.ref b1), (.ref b1)]))
            refine ownVia (fun _ k => XS.iconst X25.here hx rfl (hb hby d1_175) k) ?_
            show ownFin _ _ _ _ _ (T25.setTop (mkF m 176 #[.val (.long q1), .second, .val (.int p1), .val (.int (own_y q1 56)), .val (.int (own_y q1 48)), .val (.int (own_y q1 40)), .val (.int (own_y q1 32)), .val (.int (own_y q1 24)), .val (.int (own_y q1 16)), .val (.int (own_y q1 8)), .val (.int (own_y0 q1))] [(.int (4 : Int32)), (.ref b1), (.ref b1)]))
            refine ownVia (fun _ k => XS.iload X25.here hx rfl (hb hby d1_176) rfl k) ?_
            show ownFin _ _ _ _ _ (T25.setTop (mkF m 178 #[.val (.long q1), .second, .val (.int p1), .val (.int (own_y q1 56)), .val (.int (own_y q1 48)), .val (.int (own_y q1 40)), .val (.int (own_y q1 32)), .val (.int (own_y q1 24)), .val (.int (own_y q1 16)), .val (.int (own_y q1 8)), .val (.int (own_y0 q1))] [(.int (own_y0 q1)), (.int (4 : Int32)), (.ref b1), (.ref b1)]))
            refine ownBastore X25 hx hZ e25 A_b1 ⟨by decide, by decide⟩ (4) (by decide) (Nat.le_of_ble_eq_true rfl) N25 ge_b1 (hb hby d1_178) ?_
            intro T26 h26 L26 X26 e26 N26 W26 A_b1
            have E_b1 := E_b1.wr W26
            have K0 := K0.wr W26 (Or.inr sz_b1)
            have Z0 := own_szW Z0 W26
            have A_b1 : Arv Z h26 b1 k_b1 .byte (5 : Int32) [(.int (nar .byte (own_y q1 32))), (.int (nar .byte (own_y q1 24))), (.int (nar .byte (own_y q1 16))), (.int (nar .byte (own_y q1 8))), (.int (nar .byte (own_y0 q1)))] (.int (0 : Int32)) := A_b1
            show ownFin _ _ _ _ _ (T26.setTop (mkF m 179 #[.val (.long q1), .second, .val (.int p1), .val (.int (own_y q1 56)), .val (.int (own_y q1 48)), .val (.int (own_y q1 40)), .val (.int (own_y q1 32)), .val (.int (own_y q1 24)), .val (.int (own_y q1 16)), .val (.int (own_y q1 8)), .val (.int (own_y0 q1))] [(.ref b1)]))
            have hMN : M = 5 := by omega
            refine ownRetA X26 hx hlk (ty := (.array .byte)) hret rfl (hb hby d1_179) (by decide) (by decide) ?_
            show (Q_own_octets Z q1 p1 h0 n0 M) (some (.ref b1)) T26.heap _
            rw [e26]
            exact ⟨b1, k_b1, rfl, N26, K0, sz_b1, E_b1, by rw [(own_lit hM (by rw [hMN]; decide) : p1 = (5 : Int32)), hMN]; exact A_b1⟩
          case neg =>
            have hc20I : ¬ (M : Int) = 5 := fun q => hc20 ((own_eqi hM (by decide)).mpr q)
            refine ownVia (fun _ k => XS.icmpYes X0.here hx rfl (pc0 := 148) (pc' := 180) rfl (hb hby d1_148) rfl (feq hc20).2 (by decide) (by decide) k) ?_
            show ownFin _ _ _ _ _ (T0.setTop (mkF m 180 #[.val (.long q1), .second, .val (.int p1), .val (.int (own_y q1 56)), .val (.int (own_y q1 48)), .val (.int (own_y q1 40)), .val (.int (own_y q1 32)), .val (.int (own_y q1 24)), .val (.int (own_y q1 16)), .val (.int (own_y q1 8)), .val (.int (own_y0 q1))] []))
            refine ownVia (fun _ k => XS.iloadN X0.here hx rfl (hb hby d1_180) rfl k) ?_
            show ownFin _ _ _ _ _ (T0.setTop (mkF m 181 #[.val (.long q1), .second, .val (.int p1), .val (.int (own_y q1 56)), .val (.int (own_y q1 48)), .val (.int (own_y q1 40)), .val (.int (own_y q1 32)), .val (.int (own_y q1 24)), .val (.int (own_y q1 16)), .val (.int (own_y q1 8)), .val (.int (own_y0 q1))] [(.int p1)]))
            refine ownVia (fun _ k => XS.bipush X0.here hx rfl (hb hby d1_181) k) ?_
            show ownFin _ _ _ _ _ (T0.setTop (mkF m 183 #[.val (.long q1), .second, .val (.int p1), .val (.int (own_y q1 56)), .val (.int (own_y q1 48)), .val (.int (own_y q1 40)), .val (.int (own_y q1 32)), .val (.int (own_y q1 24)), .val (.int (own_y q1 16)), .val (.int (own_y q1 8)), .val (.int (own_y0 q1))] [(.int (6 : Int32)), (.int p1)]))
            by_cases hc27 : p1 = (6 : Int32)
            case pos =>
              have hc27I : (M : Int) = 6 := (own_eqi hM (by decide)).mp hc27
              refine ownVia (fun _ k => XS.icmpNo X0.here hx rfl (hb hby d1_183) rfl (teq hc27).2 k) ?_
              show ownFin _ _ _ _ _ (T0.setTop (mkF m 186 #[.val (.long q1), .second, .val (.int p1), .val (.int (own_y q1 56)), .val (.int (own_y q1 48)), .val (.int (own_y q1 40)), .val (.int (own_y q1 32)), .val (.int (own_y q1 24)), .val (.int (own_y q1 16)), .val (.int (own_y q1 8)), .val (.int (own_y0 q1))] []))
              refine ownVia (fun _ k => XS.bipush X0.here hx rfl (hb hby d1_186) k) ?_
              show ownFin _ _ _ _ _ (T0.setTop (mkF m 188 #[.val (.long q1), .second, .val (.int p1), .val (.int (own_y q1 56)), .val (.int (own_y q1 48)), .val (.int (own_y q1 40)), .val (.int (own_y q1 32)), .val (.int (own_y q1 24)), .val (.int (own_y q1 16)), .val (.int (own_y q1 8)), .val (.int (own_y0 q1))] [(.int (6 : Int32))]))
              refine ownNewP X0 hx hZ (hw _ (List.mem_of_getElem? (i := 8) rfl)) e0 "[B" (by decide) (by decide) (6) (by decide) (8) (by decide) (by decide) (by decide) (by decide) (hb hby d1_188) ?_
              intro T28 h28 k_b1 b1 g28 X28 e28 E28 A_b1 E_b1
              have ge_b1 : n0 ≤ b1 := Nat.le_trans Z0 (Nat.le_of_eq g28.symm)
              have sz_b1 : h0.size ≤ b1 := Nat.le_trans K0.1 (Nat.le_of_eq g28.symm)
              have K0 := K0.ext E28
              have Z0 := own_sz Z0 E28
              have A_b1 : Arv Z h28 b1 k_b1 .byte (6 : Int32) [(.int (0 : Int32)), (.int (0 : Int32)), (.int (0 : Int32)), (.int (0 : Int32)), (.int (0 : Int32)), (.int (0 : Int32))] (.int (0 : Int32)) := A_b1
              show ownFin _ _ _ _ _ (T28.setTop (mkF m 190 #[.val (.long q1), .second, .val (.int p1), .val (.int (own_y q1 56)), .val (.int (own_y q1 48)), .val (.int (own_y q1 40)), .val (.int (own_y q1 32)), .val (.int (own_y q1 24)), .val (.int (own_y q1 16)), .val (.int (own_y q1 8)), .val (.int (own_y0 q1))] [(.ref b1)]))
              refine ownVia (fun _ k => XS.dup X28.here hx rfl (hb hby d1_190) rfl rfl k) ?_
              show ownFin _ _ _ _ _ (T28.setTop (mkF m 191 #[.val (.long q1), .second, .val (.int p1), .val (.int (own_y q1 56)), .val (.int (own_y q1 48)), .val (.int (own_y q1 40)), .val (.int (own_y q1 32)), .val (.int (own_y q1 24)), .val (.int (own_y q1 16)), .val (.int (own_y q1 8)), .val (.int (own_y0 q1))] [(.ref b1), (.ref b1)]))
              refine ownVia (fun _ k => XS.iconst X28.here hx rfl (hb hby d1_191) k) ?_
              show ownFin _ _ _ _ _ (T28.setTop (mkF m 192 #[.val (.long q1), .second, .val (.int p1), .val (.int (own_y q1 56)), .val (.int (own_y q1 48)), .val (.int (own_y q1 40)), .val (.int (own_y q1 32)), .val (.int (own_y q1 24)), .val (.int (own_y q1 16)), .val (.int (own_y q1 8)), .val (.int (own_y0 q1))] [(.int (0 : Int32)), (.ref b1), (.ref b1)]))
              refine ownVia (fun _ k => XS.iload X28.here hx rfl (hb hby d1_192) rfl k) ?_
              show ownFin _ _ _ _ _ (T28.setTop (mkF m 194 #[.val (.long q1), .second, .val (.int p1), .val (.int (own_y q1 56)), .val (.int (own_y q1 48)), .val (.int (own_y q1 40)), .val (.int (own_y q1 32)), .val (.int (own_y q1 24)), .val (.int (own_y q1 16)), .val (.int (own_y q1 8)), .val (.int (own_y0 q1))] [(.int (own_y q1 40)), (.int (0 : Int32)), (.ref b1), (.ref b1)]))
              refine ownBastore X28 hx hZ e28 A_b1 ⟨by decide, by decide⟩ (0) (by decide) (Nat.le_of_ble_eq_true rfl) N0 ge_b1 (hb hby d1_194) ?_
              intro T29 h29 L29 X29 e29 N29 W29 A_b1
              have E_b1 := E_b1.wr W29
              have K0 := K0.wr W29 (Or.inr sz_b1)
              have Z0 := own_szW Z0 W29
              have A_b1 : Arv Z h29 b1 k_b1 .byte (6 : Int32) [(.int (nar .byte (own_y q1 40))), (.int (0 : Int32)), (.int (0 : Int32)), (.int (0 : Int32)), (.int (0 : Int32)), (.int (0 : Int32))] (.int (0 : Int32)) := A_b1
              show ownFin _ _ _ _ _ (T29.setTop (mkF m 195 #[.val (.long q1), .second, .val (.int p1), .val (.int (own_y q1 56)), .val (.int (own_y q1 48)), .val (.int (own_y q1 40)), .val (.int (own_y q1 32)), .val (.int (own_y q1 24)), .val (.int (own_y q1 16)), .val (.int (own_y q1 8)), .val (.int (own_y0 q1))] [(.ref b1)]))
              refine ownVia (fun _ k => XS.dup X29.here hx rfl (hb hby d1_195) rfl rfl k) ?_
              show ownFin _ _ _ _ _ (T29.setTop (mkF m 196 #[.val (.long q1), .second, .val (.int p1), .val (.int (own_y q1 56)), .val (.int (own_y q1 48)), .val (.int (own_y q1 40)), .val (.int (own_y q1 32)), .val (.int (own_y q1 24)), .val (.int (own_y q1 16)), .val (.int (own_y q1 8)), .val (.int (own_y0 q1))] [(.ref b1), (.ref b1)]))
              refine ownVia (fun _ k => XS.iconst X29.here hx rfl (hb hby d1_196) k) ?_
              show ownFin _ _ _ _ _ (T29.setTop (mkF m 197 #[.val (.long q1), .second, .val (.int p1), .val (.int (own_y q1 56)), .val (.int (own_y q1 48)), .val (.int (own_y q1 40)), .val (.int (own_y q1 32)), .val (.int (own_y q1 24)), .val (.int (own_y q1 16)), .val (.int (own_y q1 8)), .val (.int (own_y0 q1))] [(.int (1 : Int32)), (.ref b1), (.ref b1)]))
              refine ownVia (fun _ k => XS.iload X29.here hx rfl (hb hby d1_197) rfl k) ?_
              show ownFin _ _ _ _ _ (T29.setTop (mkF m 199 #[.val (.long q1), .second, .val (.int p1), .val (.int (own_y q1 56)), .val (.int (own_y q1 48)), .val (.int (own_y q1 40)), .val (.int (own_y q1 32)), .val (.int (own_y q1 24)), .val (.int (own_y q1 16)), .val (.int (own_y q1 8)), .val (.int (own_y0 q1))] [(.int (own_y q1 32)), (.int (1 : Int32)), (.ref b1), (.ref b1)]))
              refine ownBastore X29 hx hZ e29 A_b1 ⟨by decide, by decide⟩ (1) (by decide) (Nat.le_of_ble_eq_true rfl) N29 ge_b1 (hb hby d1_199) ?_
              intro T30 h30 L30 X30 e30 N30 W30 A_b1
              have E_b1 := E_b1.wr W30
              have K0 := K0.wr W30 (Or.inr sz_b1)
              have Z0 := own_szW Z0 W30
              have A_b1 : Arv Z h30 b1 k_b1 .byte (6 : Int32) [(.int (nar .byte (own_y q1 40))), (.int (nar .byte (own_y q1 32))), (.int (0 : Int32)), (.int (0 : Int32)), (.int (0 : Int32)), (.int (0 : Int32))] (.int (0 : Int32)) := A_b1
              show ownFin _ _ _ _ _ (T30.setTop (mkF m 200 #[.val (.long q1), .second, .val (.int p1), .val (.int (own_y q1 56)), .val (.int (own_y q1 48)), .val (.int (own_y q1 40)), .val (.int (own_y q1 32)), .val (.int (own_y q1 24)), .val (.int (own_y q1 16)), .val (.int (own_y q1 8)), .val (.int (own_y0 q1))] [(.ref b1)]))
              refine ownVia (fun _ k => XS.dup X30.here hx rfl (hb hby d1_200) rfl rfl k) ?_
              show ownFin _ _ _ _ _ (T30.setTop (mkF m 201 #[.val (.long q1), .second, .val (.int p1), .val (.int (own_y q1 56)), .val (.int (own_y q1 48)), .val (.int (own_y q1 40)), .val (.int (own_y q1 32)), .val (.int (own_y q1 24)), .val (.int (own_y q1 16)), .val (.int (own_y q1 8)), .val (.int (own_y0 q1))] [(.ref b1), (.ref b1)]))
              refine ownVia (fun _ k => XS.iconst X30.here hx rfl (hb hby d1_201) k) ?_
              show ownFin _ _ _ _ _ (T30.setTop (mkF m 202 #[.val (.long q1), .second, .val (.int p1), .val (.int (own_y q1 56)), .val (.int (own_y q1 48)), .val (.int (own_y q1 40)), .val (.int (own_y q1 32)), .val (.int (own_y q1 24)), .val (.int (own_y q1 16)), .val (.int (own_y q1 8)), .val (.int (own_y0 q1))] [(.int (2 : Int32)), (.ref b1), (.ref b1)]))
              refine ownVia (fun _ k => XS.iload X30.here hx rfl (hb hby d1_202) rfl k) ?_
              show ownFin _ _ _ _ _ (T30.setTop (mkF m 204 #[.val (.long q1), .second, .val (.int p1), .val (.int (own_y q1 56)), .val (.int (own_y q1 48)), .val (.int (own_y q1 40)), .val (.int (own_y q1 32)), .val (.int (own_y q1 24)), .val (.int (own_y q1 16)), .val (.int (own_y q1 8)), .val (.int (own_y0 q1))] [(.int (own_y q1 24)), (.int (2 : Int32)), (.ref b1), (.ref b1)]))
              refine ownBastore X30 hx hZ e30 A_b1 ⟨by decide, by decide⟩ (2) (by decide) (Nat.le_of_ble_eq_true rfl) N30 ge_b1 (hb hby d1_204) ?_
              intro T31 h31 L31 X31 e31 N31 W31 A_b1
              have E_b1 := E_b1.wr W31
              have K0 := K0.wr W31 (Or.inr sz_b1)
              have Z0 := own_szW Z0 W31
              have A_b1 : Arv Z h31 b1 k_b1 .byte (6 : Int32) [(.int (nar .byte (own_y q1 40))), (.int (nar .byte (own_y q1 32))), (.int (nar .byte (own_y q1 24))), (.int (0 : Int32)), (.int (0 : Int32)), (.int (0 : Int32))] (.int (0 : Int32)) := A_b1
              show ownFin _ _ _ _ _ (T31.setTop (mkF m 205 #[.val (.long q1), .second, .val (.int p1), .val (.int (own_y q1 56)), .val (.int (own_y q1 48)), .val (.int (own_y q1 40)), .val (.int (own_y q1 32)), .val (.int (own_y q1 24)), .val (.int (own_y q1 16)), .val (.int (own_y q1 8)), .val (.int (own_y0 q1))] [(.ref b1)]))
              refine ownVia (fun _ k => XS.dup X31.here hx rfl (hb hby d1_205) rfl rfl k) ?_
              show ownFin _ _ _ _ _ (T31.setTop (mkF m 206 #[.val (.long q1), .second, .val (.int p1), .val (.int (own_y q1 56)), .val (.int (own_y q1 48)), .val (.int (own_y q1 40)), .val (.int (own_y q1 32)), .val (.int (own_y q1 24)), .val (.int (own_y q1 16)), .val (.int (own_y q1 8)), .val (.int (own_y0 q1))] [(.ref b1), (.ref b1)]))
              refine ownVia (fun _ k => XS.iconst X31.here hx rfl (hb hby d1_206) k) ?_
              show ownFin _ _ _ _ _ (T31.setTop (mkF m 207 #[.val (.long q1), .second, .val (.int p1), .val (.int (own_y q1 56)), .val (.int (own_y q1 48)), .val (.int (own_y q1 40)), .val (.int (own_y q1 32)), .val (.int (own_y q1 24)), .val (.int (own_y q1 16)), .val (.int (own_y q1 8)), .val (.int (own_y0 q1))] [(.int (3 : Int32)), (.ref b1), (.ref b1)]))
              refine ownVia (fun _ k => XS.iload X31.here hx rfl (hb hby d1_207) rfl k) ?_
              show ownFin _ _ _ _ _ (T31.setTop (mkF m 209 #[.val (.long q1), .second, .val (.int p1), .val (.int (own_y q1 56)), .val (.int (own_y q1 48)), .val (.int (own_y q1 40)), .val (.int (own_y q1 32)), .val (.int (own_y q1 24)), .val (.int (own_y q1 16)), .val (.int (own_y q1 8)), .val (.int (own_y0 q1))] [(.int (own_y q1 16)), (.int (3 : Int32)), (.ref b1), (.ref b1)]))
              refine ownBastore X31 hx hZ e31 A_b1 ⟨by decide, by decide⟩ (3) (by decide) (Nat.le_of_ble_eq_true rfl) N31 ge_b1 (hb hby d1_209) ?_
              intro T32 h32 L32 X32 e32 N32 W32 A_b1
              have E_b1 := E_b1.wr W32
              have K0 := K0.wr W32 (Or.inr sz_b1)
              have Z0 := own_szW Z0 W32
              have A_b1 : Arv Z h32 b1 k_b1 .byte (6 : Int32) [(.int (nar .byte (own_y q1 40))), (.int (nar .byte (own_y q1 32))), (.int (nar .byte (own_y q1 24))), (.int (nar .byte (own_y q1 16))), (.int (0 : Int32)), (.int (0 : Int32))] (.int (0 : Int32)) := A_b1
              show ownFin _ _ _ _ _ (T32.setTop (mkF m 210 #[.val (.long q1), .second, .val (.int p1), .val (.int (own_y q1 56)), .val (.int (own_y q1 48)), .val (.int (own_y q1 40)), .val (.int (own_y q1 32)), .val (.int (own_y q1 24)), .val (.int (own_y q1 16)), .val (.int (own_y q1 8)), .val (.int (own_y0 q1))] [(.ref b1)]))
              refine ownVia (fun _ k => XS.dup X32.here hx rfl (hb hby d1_210) rfl rfl k) ?_
              show ownFin _ _ _ _ _ (T32.setTop (mkF m 211 #[.val (.long q1), .second, .val (.int p1), .val (.int (own_y q1 56)), .val (.int (own_y q1 48)), .val (.int (own_y q1 40)), .val (.int (own_y q1 32)), .val (.int (own_y q1 24)), .val (.int (own_y q1 16)), .val (.int (own_y q1 8)), .val (.int (own_y0 q1))] [(.ref b1), (.ref b1)]))
              refine ownVia (fun _ k => XS.iconst X32.here hx rfl (hb hby d1_211) k) ?_
              show ownFin _ _ _ _ _ (T32.setTop (mkF m 212 #[.val (.long q1), .second, .val (.int p1), .val (.int (own_y q1 56)), .val (.int (own_y q1 48)), .val (.int (own_y q1 40)), .val (.int (own_y q1 32)), .val (.int (own_y q1 24)), .val (.int (own_y q1 16)), .val (.int (own_y q1 8)), .val (.int (own_y0 q1))] [(.int (4 : Int32)), (.ref b1), (.ref b1)]))
              refine ownVia (fun _ k => XS.iload X32.here hx rfl (hb hby d1_212) rfl k) ?_
              show ownFin _ _ _ _ _ (T32.setTop (mkF m 214 #[.val (.long q1), .second, .val (.int p1), .val (.int (own_y q1 56)), .val (.int (own_y q1 48)), .val (.int (own_y q1 40)), .val (.int (own_y q1 32)), .val (.int (own_y q1 24)), .val (.int (own_y q1 16)), .val (.int (own_y q1 8)), .val (.int (own_y0 q1))] [(.int (own_y q1 8)), (.int (4 : Int32)), (.ref b1), (.ref b1)]))
              refine ownBastore X32 hx hZ e32 A_b1 ⟨by decide, by decide⟩ (4) (by decide) (Nat.le_of_ble_eq_true rfl) N32 ge_b1 (hb hby d1_214) ?_
              intro T33 h33 L33 X33 e33 N33 W33 A_b1
              have E_b1 := E_b1.wr W33
              have K0 := K0.wr W33 (Or.inr sz_b1)
              have Z0 := own_szW Z0 W33
              have A_b1 : Arv Z h33 b1 k_b1 .byte (6 : Int32) [(.int (nar .byte (own_y q1 40))), (.int (nar .byte (own_y q1 32))), (.int (nar .byte (own_y q1 24))), (.int (nar .byte (own_y q1 16))), (.int (nar .byte (own_y q1 8))), (.int (0 : Int32))] (.int (0 : Int32)) := A_b1
              show ownFin _ _ _ _ _ (T33.setTop (mkF m 215 #[.val (.long q1), .second, .val (.int p1), .val (.int (own_y q1 56)), .val (.int (own_y q1 48)), .val (.int (own_y q1 40)), .val (.int (own_y q1 32)), .val (.int (own_y q1 24)), .val (.int (own_y q1 16)), .val (.int (own_y q1 8)), .val (.int (own_y0 q1))] [(.ref b1)]))
              refine ownVia (fun _ k => XS.dup X33.here hx rfl (hb hby d1_215) rfl rfl k) ?_
              show ownFin _ _ _ _ _ (T33.setTop (mkF m 216 #[.val (.long q1), .second, .val (.int p1), .val (.int (own_y q1 56)), .val (.int (own_y q1 48)), .val (.int (own_y q1 40)), .val (.int (own_y q1 32)), .val (.int (own_y q1 24)), .val (.int (own_y q1 16)), .val (.int (own_y q1 8)), .val (.int (own_y0 q1))] [(.ref b1), (.ref b1)]))
              refine ownVia (fun _ k => XS.iconst X33.here hx rfl (hb hby d1_216) k) ?_
              show ownFin _ _ _ _ _ (T33.setTop (mkF m 217 #[.val (.long q1), .second, .val (.int p1), .val (.int (own_y q1 56)), .val (.int (own_y q1 48)), .val (.int (own_y q1 40)), .val (.int (own_y q1 32)), .val (.int (own_y q1 24)), .val (.int (own_y q1 16)), .val (.int (own_y q1 8)), .val (.int (own_y0 q1))] [(.int (5 : Int32)), (.ref b1), (.ref b1)]))
              refine ownVia (fun _ k => XS.iload X33.here hx rfl (hb hby d1_217) rfl k) ?_
              show ownFin _ _ _ _ _ (T33.setTop (mkF m 219 #[.val (.long q1), .second, .val (.int p1), .val (.int (own_y q1 56)), .val (.int (own_y q1 48)), .val (.int (own_y q1 40)), .val (.int (own_y q1 32)), .val (.int (own_y q1 24)), .val (.int (own_y q1 16)), .val (.int (own_y q1 8)), .val (.int (own_y0 q1))] [(.int (own_y0 q1)), (.int (5 : Int32)), (.ref b1), (.ref b1)]))
              refine ownBastore X33 hx hZ e33 A_b1 ⟨by decide, by decide⟩ (5) (by decide) (Nat.le_of_ble_eq_true rfl) N33 ge_b1 (hb hby d1_219) ?_
              intro T34 h34 L34 X34 e34 N34 W34 A_b1
              have E_b1 := E_b1.wr W34
              have K0 := K0.wr W34 (Or.inr sz_b1)
              have Z0 := own_szW Z0 W34
              have A_b1 : Arv Z h34 b1 k_b1 .byte (6 : Int32) [(.int (nar .byte (own_y q1 40))), (.int (nar .byte (own_y q1 32))), (.int (nar .byte (own_y q1 24))), (.int (nar .byte (own_y q1 16))), (.int (nar .byte (own_y q1 8))), (.int (nar .byte (own_y0 q1)))] (.int (0 : Int32)) := A_b1
              show ownFin _ _ _ _ _ (T34.setTop (mkF m 220 #[.val (.long q1), .second, .val (.int p1), .val (.int (own_y q1 56)), .val (.int (own_y q1 48)), .val (.int (own_y q1 40)), .val (.int (own_y q1 32)), .val (.int (own_y q1 24)), .val (.int (own_y q1 16)), .val (.int (own_y q1 8)), .val (.int (own_y0 q1))] [(.ref b1)]))
              have hMN : M = 6 := by omega
              refine ownRetA X34 hx hlk (ty := (.array .byte)) hret rfl (hb hby d1_220) (by decide) (by decide) ?_
              show (Q_own_octets Z q1 p1 h0 n0 M) (some (.ref b1)) T34.heap _
              rw [e34]
              exact ⟨b1, k_b1, rfl, N34, K0, sz_b1, E_b1, by rw [(own_lit hM (by rw [hMN]; decide) : p1 = (6 : Int32)), hMN]; exact A_b1⟩
            case neg =>
              have hc27I : ¬ (M : Int) = 6 := fun q => hc27 ((own_eqi hM (by decide)).mpr q)
              refine ownVia (fun _ k => XS.icmpYes X0.here hx rfl (pc0 := 183) (pc' := 221) rfl (hb hby d1_183) rfl (feq hc27).2 (by decide) (by decide) k) ?_
              show ownFin _ _ _ _ _ (T0.setTop (mkF m 221 #[.val (.long q1), .second, .val (.int p1), .val (.int (own_y q1 56)), .val (.int (own_y q1 48)), .val (.int (own_y q1 40)), .val (.int (own_y q1 32)), .val (.int (own_y q1 24)), .val (.int (own_y q1 16)), .val (.int (own_y q1 8)), .val (.int (own_y0 q1))] []))
              refine ownVia (fun _ k => XS.iloadN X0.here hx rfl (hb hby d1_221) rfl k) ?_
              show ownFin _ _ _ _ _ (T0.setTop (mkF m 222 #[.val (.long q1), .second, .val (.int p1), .val (.int (own_y q1 56)), .val (.int (own_y q1 48)), .val (.int (own_y q1 40)), .val (.int (own_y q1 32)), .val (.int (own_y q1 24)), .val (.int (own_y q1 16)), .val (.int (own_y q1 8)), .val (.int (own_y0 q1))] [(.int p1)]))
              refine ownVia (fun _ k => XS.bipush X0.here hx rfl (hb hby d1_222) k) ?_
              show ownFin _ _ _ _ _ (T0.setTop (mkF m 224 #[.val (.long q1), .second, .val (.int p1), .val (.int (own_y q1 56)), .val (.int (own_y q1 48)), .val (.int (own_y q1 40)), .val (.int (own_y q1 32)), .val (.int (own_y q1 24)), .val (.int (own_y q1 16)), .val (.int (own_y q1 8)), .val (.int (own_y0 q1))] [(.int (7 : Int32)), (.int p1)]))
              by_cases hc35 : p1 = (7 : Int32)
              case pos =>
                have hc35I : (M : Int) = 7 := (own_eqi hM (by decide)).mp hc35
                refine ownVia (fun _ k => XS.icmpNo X0.here hx rfl (hb hby d1_224) rfl (teq hc35).2 k) ?_
                show ownFin _ _ _ _ _ (T0.setTop (mkF m 227 #[.val (.long q1), .second, .val (.int p1), .val (.int (own_y q1 56)), .val (.int (own_y q1 48)), .val (.int (own_y q1 40)), .val (.int (own_y q1 32)), .val (.int (own_y q1 24)), .val (.int (own_y q1 16)), .val (.int (own_y q1 8)), .val (.int (own_y0 q1))] []))
                refine ownVia (fun _ k => XS.bipush X0.here hx rfl (hb hby d1_227) k) ?_
                show ownFin _ _ _ _ _ (T0.setTop (mkF m 229 #[.val (.long q1), .second, .val (.int p1), .val (.int (own_y q1 56)), .val (.int (own_y q1 48)), .val (.int (own_y q1 40)), .val (.int (own_y q1 32)), .val (.int (own_y q1 24)), .val (.int (own_y q1 16)), .val (.int (own_y q1 8)), .val (.int (own_y0 q1))] [(.int (7 : Int32))]))
                refine ownNewP X0 hx hZ (hw _ (List.mem_of_getElem? (i := 8) rfl)) e0 "[B" (by decide) (by decide) (7) (by decide) (8) (by decide) (by decide) (by decide) (by decide) (hb hby d1_229) ?_
                intro T36 h36 k_b1 b1 g36 X36 e36 E36 A_b1 E_b1
                have ge_b1 : n0 ≤ b1 := Nat.le_trans Z0 (Nat.le_of_eq g36.symm)
                have sz_b1 : h0.size ≤ b1 := Nat.le_trans K0.1 (Nat.le_of_eq g36.symm)
                have K0 := K0.ext E36
                have Z0 := own_sz Z0 E36
                have A_b1 : Arv Z h36 b1 k_b1 .byte (7 : Int32) [(.int (0 : Int32)), (.int (0 : Int32)), (.int (0 : Int32)), (.int (0 : Int32)), (.int (0 : Int32)), (.int (0 : Int32)), (.int (0 : Int32))] (.int (0 : Int32)) := A_b1
                show ownFin _ _ _ _ _ (T36.setTop (mkF m 231 #[.val (.long q1), .second, .val (.int p1), .val (.int (own_y q1 56)), .val (.int (own_y q1 48)), .val (.int (own_y q1 40)), .val (.int (own_y q1 32)), .val (.int (own_y q1 24)), .val (.int (own_y q1 16)), .val (.int (own_y q1 8)), .val (.int (own_y0 q1))] [(.ref b1)]))
                refine ownVia (fun _ k => XS.dup X36.here hx rfl (hb hby d1_231) rfl rfl k) ?_
                show ownFin _ _ _ _ _ (T36.setTop (mkF m 232 #[.val (.long q1), .second, .val (.int p1), .val (.int (own_y q1 56)), .val (.int (own_y q1 48)), .val (.int (own_y q1 40)), .val (.int (own_y q1 32)), .val (.int (own_y q1 24)), .val (.int (own_y q1 16)), .val (.int (own_y q1 8)), .val (.int (own_y0 q1))] [(.ref b1), (.ref b1)]))
                refine ownVia (fun _ k => XS.iconst X36.here hx rfl (hb hby d1_232) k) ?_
                show ownFin _ _ _ _ _ (T36.setTop (mkF m 233 #[.val (.long q1), .second, .val (.int p1), .val (.int (own_y q1 56)), .val (.int (own_y q1 48)), .val (.int (own_y q1 40)), .val (.int (own_y q1 32)), .val (.int (own_y q1 24)), .val (.int (own_y q1 16)), .val (.int (own_y q1 8)), .val (.int (own_y0 q1))] [(.int (0 : Int32)), (.ref b1), (.ref b1)]))
                refine ownVia (fun _ k => XS.iload X36.here hx rfl (hb hby d1_233) rfl k) ?_
                show ownFin _ _ _ _ _ (T36.setTop (mkF m 235 #[.val (.long q1), .second, .val (.int p1), .val (.int (own_y q1 56)), .val (.int (own_y q1 48)), .val (.int (own_y q1 40)), .val (.int (own_y q1 32)), .val (.int (own_y q1 24)), .val (.int (own_y q1 16)), .val (.int (own_y q1 8)), .val (.int (own_y0 q1))] [(.int (own_y q1 48)), (.int (0 : Int32)), (.ref b1), (.ref b1)]))
                refine ownBastore X36 hx hZ e36 A_b1 ⟨by decide, by decide⟩ (0) (by decide) (Nat.le_of_ble_eq_true rfl) N0 ge_b1 (hb hby d1_235) ?_
                intro T37 h37 L37 X37 e37 N37 W37 A_b1
                have E_b1 := E_b1.wr W37
                have K0 := K0.wr W37 (Or.inr sz_b1)
                have Z0 := own_szW Z0 W37
                have A_b1 : Arv Z h37 b1 k_b1 .byte (7 : Int32) [(.int (nar .byte (own_y q1 48))), (.int (0 : Int32)), (.int (0 : Int32)), (.int (0 : Int32)), (.int (0 : Int32)), (.int (0 : Int32)), (.int (0 : Int32))] (.int (0 : Int32)) := A_b1
                show ownFin _ _ _ _ _ (T37.setTop (mkF m 236 #[.val (.long q1), .second, .val (.int p1), .val (.int (own_y q1 56)), .val (.int (own_y q1 48)), .val (.int (own_y q1 40)), .val (.int (own_y q1 32)), .val (.int (own_y q1 24)), .val (.int (own_y q1 16)), .val (.int (own_y q1 8)), .val (.int (own_y0 q1))] [(.ref b1)]))
                refine ownVia (fun _ k => XS.dup X37.here hx rfl (hb hby d1_236) rfl rfl k) ?_
                show ownFin _ _ _ _ _ (T37.setTop (mkF m 237 #[.val (.long q1), .second, .val (.int p1), .val (.int (own_y q1 56)), .val (.int (own_y q1 48)), .val (.int (own_y q1 40)), .val (.int (own_y q1 32)), .val (.int (own_y q1 24)), .val (.int (own_y q1 16)), .val (.int (own_y q1 8)), .val (.int (own_y0 q1))] [(.ref b1), (.ref b1)]))
                refine ownVia (fun _ k => XS.iconst X37.here hx rfl (hb hby d1_237) k) ?_
                show ownFin _ _ _ _ _ (T37.setTop (mkF m 238 #[.val (.long q1), .second, .val (.int p1), .val (.int (own_y q1 56)), .val (.int (own_y q1 48)), .val (.int (own_y q1 40)), .val (.int (own_y q1 32)), .val (.int (own_y q1 24)), .val (.int (own_y q1 16)), .val (.int (own_y q1 8)), .val (.int (own_y0 q1))] [(.int (1 : Int32)), (.ref b1), (.ref b1)]))
                refine ownVia (fun _ k => XS.iload X37.here hx rfl (hb hby d1_238) rfl k) ?_
                show ownFin _ _ _ _ _ (T37.setTop (mkF m 240 #[.val (.long q1), .second, .val (.int p1), .val (.int (own_y q1 56)), .val (.int (own_y q1 48)), .val (.int (own_y q1 40)), .val (.int (own_y q1 32)), .val (.int (own_y q1 24)), .val (.int (own_y q1 16)), .val (.int (own_y q1 8)), .val (.int (own_y0 q1))] [(.int (own_y q1 40)), (.int (1 : Int32)), (.ref b1), (.ref b1)]))
                refine ownBastore X37 hx hZ e37 A_b1 ⟨by decide, by decide⟩ (1) (by decide) (Nat.le_of_ble_eq_true rfl) N37 ge_b1 (hb hby d1_240) ?_
                intro T38 h38 L38 X38 e38 N38 W38 A_b1
                have E_b1 := E_b1.wr W38
                have K0 := K0.wr W38 (Or.inr sz_b1)
                have Z0 := own_szW Z0 W38
                have A_b1 : Arv Z h38 b1 k_b1 .byte (7 : Int32) [(.int (nar .byte (own_y q1 48))), (.int (nar .byte (own_y q1 40))), (.int (0 : Int32)), (.int (0 : Int32)), (.int (0 : Int32)), (.int (0 : Int32)), (.int (0 : Int32))] (.int (0 : Int32)) := A_b1
                show ownFin _ _ _ _ _ (T38.setTop (mkF m 241 #[.val (.long q1), .second, .val (.int p1), .val (.int (own_y q1 56)), .val (.int (own_y q1 48)), .val (.int (own_y q1 40)), .val (.int (own_y q1 32)), .val (.int (own_y q1 24)), .val (.int (own_y q1 16)), .val (.int (own_y q1 8)), .val (.int (own_y0 q1))] [(.ref b1)]))
                refine ownVia (fun _ k => XS.dup X38.here hx rfl (hb hby d1_241) rfl rfl k) ?_
                show ownFin _ _ _ _ _ (T38.setTop (mkF m 242 #[.val (.long q1), .second, .val (.int p1), .val (.int (own_y q1 56)), .val (.int (own_y q1 48)), .val (.int (own_y q1 40)), .val (.int (own_y q1 32)), .val (.int (own_y q1 24)), .val (.int (own_y q1 16)), .val (.int (own_y q1 8)), .val (.int (own_y0 q1))] [(.ref b1), (.ref b1)]))
                refine ownVia (fun _ k => XS.iconst X38.here hx rfl (hb hby d1_242) k) ?_
                show ownFin _ _ _ _ _ (T38.setTop (mkF m 243 #[.val (.long q1), .second, .val (.int p1), .val (.int (own_y q1 56)), .val (.int (own_y q1 48)), .val (.int (own_y q1 40)), .val (.int (own_y q1 32)), .val (.int (own_y q1 24)), .val (.int (own_y q1 16)), .val (.int (own_y q1 8)), .val (.int (own_y0 q1))] [(.int (2 : Int32)), (.ref b1), (.ref b1)]))
                refine ownVia (fun _ k => XS.iload X38.here hx rfl (hb hby d1_243) rfl k) ?_
                show ownFin _ _ _ _ _ (T38.setTop (mkF m 245 #[.val (.long q1), .second, .val (.int p1), .val (.int (own_y q1 56)), .val (.int (own_y q1 48)), .val (.int (own_y q1 40)), .val (.int (own_y q1 32)), .val (.int (own_y q1 24)), .val (.int (own_y q1 16)), .val (.int (own_y q1 8)), .val (.int (own_y0 q1))] [(.int (own_y q1 32)), (.int (2 : Int32)), (.ref b1), (.ref b1)]))
                refine ownBastore X38 hx hZ e38 A_b1 ⟨by decide, by decide⟩ (2) (by decide) (Nat.le_of_ble_eq_true rfl) N38 ge_b1 (hb hby d1_245) ?_
                intro T39 h39 L39 X39 e39 N39 W39 A_b1
                have E_b1 := E_b1.wr W39
                have K0 := K0.wr W39 (Or.inr sz_b1)
                have Z0 := own_szW Z0 W39
                have A_b1 : Arv Z h39 b1 k_b1 .byte (7 : Int32) [(.int (nar .byte (own_y q1 48))), (.int (nar .byte (own_y q1 40))), (.int (nar .byte (own_y q1 32))), (.int (0 : Int32)), (.int (0 : Int32)), (.int (0 : Int32)), (.int (0 : Int32))] (.int (0 : Int32)) := A_b1
                show ownFin _ _ _ _ _ (T39.setTop (mkF m 246 #[.val (.long q1), .second, .val (.int p1), .val (.int (own_y q1 56)), .val (.int (own_y q1 48)), .val (.int (own_y q1 40)), .val (.int (own_y q1 32)), .val (.int (own_y q1 24)), .val (.int (own_y q1 16)), .val (.int (own_y q1 8)), .val (.int (own_y0 q1))] [(.ref b1)]))
                refine ownVia (fun _ k => XS.dup X39.here hx rfl (hb hby d1_246) rfl rfl k) ?_
                show ownFin _ _ _ _ _ (T39.setTop (mkF m 247 #[.val (.long q1), .second, .val (.int p1), .val (.int (own_y q1 56)), .val (.int (own_y q1 48)), .val (.int (own_y q1 40)), .val (.int (own_y q1 32)), .val (.int (own_y q1 24)), .val (.int (own_y q1 16)), .val (.int (own_y q1 8)), .val (.int (own_y0 q1))] [(.ref b1), (.ref b1)]))
                refine ownVia (fun _ k => XS.iconst X39.here hx rfl (hb hby d1_247) k) ?_
                show ownFin _ _ _ _ _ (T39.setTop (mkF m 248 #[.val (.long q1), .second, .val (.int p1), .val (.int (own_y q1 56)), .val (.int (own_y q1 48)), .val (.int (own_y q1 40)), .val (.int (own_y q1 32)), .val (.int (own_y q1 24)), .val (.int (own_y q1 16)), .val (.int (own_y q1 8)), .val (.int (own_y0 q1))] [(.int (3 : Int32)), (.ref b1), (.ref b1)]))
                refine ownVia (fun _ k => XS.iload X39.here hx rfl (hb hby d1_248) rfl k) ?_
                show ownFin _ _ _ _ _ (T39.setTop (mkF m 250 #[.val (.long q1), .second, .val (.int p1), .val (.int (own_y q1 56)), .val (.int (own_y q1 48)), .val (.int (own_y q1 40)), .val (.int (own_y q1 32)), .val (.int (own_y q1 24)), .val (.int (own_y q1 16)), .val (.int (own_y q1 8)), .val (.int (own_y0 q1))] [(.int (own_y q1 24)), (.int (3 : Int32)), (.ref b1), (.ref b1)]))
                refine ownBastore X39 hx hZ e39 A_b1 ⟨by decide, by decide⟩ (3) (by decide) (Nat.le_of_ble_eq_true rfl) N39 ge_b1 (hb hby d1_250) ?_
                intro T40 h40 L40 X40 e40 N40 W40 A_b1
                have E_b1 := E_b1.wr W40
                have K0 := K0.wr W40 (Or.inr sz_b1)
                have Z0 := own_szW Z0 W40
                have A_b1 : Arv Z h40 b1 k_b1 .byte (7 : Int32) [(.int (nar .byte (own_y q1 48))), (.int (nar .byte (own_y q1 40))), (.int (nar .byte (own_y q1 32))), (.int (nar .byte (own_y q1 24))), (.int (0 : Int32)), (.int (0 : Int32)), (.int (0 : Int32))] (.int (0 : Int32)) := A_b1
                show ownFin _ _ _ _ _ (T40.setTop (mkF m 251 #[.val (.long q1), .second, .val (.int p1), .val (.int (own_y q1 56)), .val (.int (own_y q1 48)), .val (.int (own_y q1 40)), .val (.int (own_y q1 32)), .val (.int (own_y q1 24)), .val (.int (own_y q1 16)), .val (.int (own_y q1 8)), .val (.int (own_y0 q1))] [(.ref b1)]))
                refine ownVia (fun _ k => XS.dup X40.here hx rfl (hb hby d1_251) rfl rfl k) ?_
                show ownFin _ _ _ _ _ (T40.setTop (mkF m 252 #[.val (.long q1), .second, .val (.int p1), .val (.int (own_y q1 56)), .val (.int (own_y q1 48)), .val (.int (own_y q1 40)), .val (.int (own_y q1 32)), .val (.int (own_y q1 24)), .val (.int (own_y q1 16)), .val (.int (own_y q1 8)), .val (.int (own_y0 q1))] [(.ref b1), (.ref b1)]))
                refine ownVia (fun _ k => XS.iconst X40.here hx rfl (hb hby d1_252) k) ?_
                show ownFin _ _ _ _ _ (T40.setTop (mkF m 253 #[.val (.long q1), .second, .val (.int p1), .val (.int (own_y q1 56)), .val (.int (own_y q1 48)), .val (.int (own_y q1 40)), .val (.int (own_y q1 32)), .val (.int (own_y q1 24)), .val (.int (own_y q1 16)), .val (.int (own_y q1 8)), .val (.int (own_y0 q1))] [(.int (4 : Int32)), (.ref b1), (.ref b1)]))
                refine ownVia (fun _ k => XS.iload X40.here hx rfl (hb hby d1_253) rfl k) ?_
                show ownFin _ _ _ _ _ (T40.setTop (mkF m 255 #[.val (.long q1), .second, .val (.int p1), .val (.int (own_y q1 56)), .val (.int (own_y q1 48)), .val (.int (own_y q1 40)), .val (.int (own_y q1 32)), .val (.int (own_y q1 24)), .val (.int (own_y q1 16)), .val (.int (own_y q1 8)), .val (.int (own_y0 q1))] [(.int (own_y q1 16)), (.int (4 : Int32)), (.ref b1), (.ref b1)]))
                refine ownBastore X40 hx hZ e40 A_b1 ⟨by decide, by decide⟩ (4) (by decide) (Nat.le_of_ble_eq_true rfl) N40 ge_b1 (hb hby d1_255) ?_
                intro T41 h41 L41 X41 e41 N41 W41 A_b1
                have E_b1 := E_b1.wr W41
                have K0 := K0.wr W41 (Or.inr sz_b1)
                have Z0 := own_szW Z0 W41
                have A_b1 : Arv Z h41 b1 k_b1 .byte (7 : Int32) [(.int (nar .byte (own_y q1 48))), (.int (nar .byte (own_y q1 40))), (.int (nar .byte (own_y q1 32))), (.int (nar .byte (own_y q1 24))), (.int (nar .byte (own_y q1 16))), (.int (0 : Int32)), (.int (0 : Int32))] (.int (0 : Int32)) := A_b1
                show ownFin _ _ _ _ _ (T41.setTop (mkF m 256 #[.val (.long q1), .second, .val (.int p1), .val (.int (own_y q1 56)), .val (.int (own_y q1 48)), .val (.int (own_y q1 40)), .val (.int (own_y q1 32)), .val (.int (own_y q1 24)), .val (.int (own_y q1 16)), .val (.int (own_y q1 8)), .val (.int (own_y0 q1))] [(.ref b1)]))
                refine ownVia (fun _ k => XS.dup X41.here hx rfl (hb hby d1_256) rfl rfl k) ?_
                show ownFin _ _ _ _ _ (T41.setTop (mkF m 257 #[.val (.long q1), .second, .val (.int p1), .val (.int (own_y q1 56)), .val (.int (own_y q1 48)), .val (.int (own_y q1 40)), .val (.int (own_y q1 32)), .val (.int (own_y q1 24)), .val (.int (own_y q1 16)), .val (.int (own_y q1 8)), .val (.int (own_y0 q1))] [(.ref b1), (.ref b1)]))
                refine ownVia (fun _ k => XS.iconst X41.here hx rfl (hb hby d1_257) k) ?_
                show ownFin _ _ _ _ _ (T41.setTop (mkF m 258 #[.val (.long q1), .second, .val (.int p1), .val (.int (own_y q1 56)), .val (.int (own_y q1 48)), .val (.int (own_y q1 40)), .val (.int (own_y q1 32)), .val (.int (own_y q1 24)), .val (.int (own_y q1 16)), .val (.int (own_y q1 8)), .val (.int (own_y0 q1))] [(.int (5 : Int32)), (.ref b1), (.ref b1)]))
                refine ownVia (fun _ k => XS.iload X41.here hx rfl (hb hby d1_258) rfl k) ?_
                show ownFin _ _ _ _ _ (T41.setTop (mkF m 260 #[.val (.long q1), .second, .val (.int p1), .val (.int (own_y q1 56)), .val (.int (own_y q1 48)), .val (.int (own_y q1 40)), .val (.int (own_y q1 32)), .val (.int (own_y q1 24)), .val (.int (own_y q1 16)), .val (.int (own_y q1 8)), .val (.int (own_y0 q1))] [(.int (own_y q1 8)), (.int (5 : Int32)), (.ref b1), (.ref b1)]))
                refine ownBastore X41 hx hZ e41 A_b1 ⟨by decide, by decide⟩ (5) (by decide) (Nat.le_of_ble_eq_true rfl) N41 ge_b1 (hb hby d1_260) ?_
                intro T42 h42 L42 X42 e42 N42 W42 A_b1
                have E_b1 := E_b1.wr W42
                have K0 := K0.wr W42 (Or.inr sz_b1)
                have Z0 := own_szW Z0 W42
                have A_b1 : Arv Z h42 b1 k_b1 .byte (7 : Int32) [(.int (nar .byte (own_y q1 48))), (.int (nar .byte (own_y q1 40))), (.int (nar .byte (own_y q1 32))), (.int (nar .byte (own_y q1 24))), (.int (nar .byte (own_y q1 16))), (.int (nar .byte (own_y q1 8))), (.int (0 : Int32))] (.int (0 : Int32)) := A_b1
                show ownFin _ _ _ _ _ (T42.setTop (mkF m 261 #[.val (.long q1), .second, .val (.int p1), .val (.int (own_y q1 56)), .val (.int (own_y q1 48)), .val (.int (own_y q1 40)), .val (.int (own_y q1 32)), .val (.int (own_y q1 24)), .val (.int (own_y q1 16)), .val (.int (own_y q1 8)), .val (.int (own_y0 q1))] [(.ref b1)]))
                refine ownVia (fun _ k => XS.dup X42.here hx rfl (hb hby d1_261) rfl rfl k) ?_
                show ownFin _ _ _ _ _ (T42.setTop (mkF m 262 #[.val (.long q1), .second, .val (.int p1), .val (.int (own_y q1 56)), .val (.int (own_y q1 48)), .val (.int (own_y q1 40)), .val (.int (own_y q1 32)), .val (.int (own_y q1 24)), .val (.int (own_y q1 16)), .val (.int (own_y q1 8)), .val (.int (own_y0 q1))] [(.ref b1), (.ref b1)]))
                refine ownVia (fun _ k => XS.bipush X42.here hx rfl (hb hby d1_262) k) ?_
                show ownFin _ _ _ _ _ (T42.setTop (mkF m 264 #[.val (.long q1), .second, .val (.int p1), .val (.int (own_y q1 56)), .val (.int (own_y q1 48)), .val (.int (own_y q1 40)), .val (.int (own_y q1 32)), .val (.int (own_y q1 24)), .val (.int (own_y q1 16)), .val (.int (own_y q1 8)), .val (.int (own_y0 q1))] [(.int (6 : Int32)), (.ref b1), (.ref b1)]))
                refine ownVia (fun _ k => XS.iload X42.here hx rfl (hb hby d1_264) rfl k) ?_
                show ownFin _ _ _ _ _ (T42.setTop (mkF m 266 #[.val (.long q1), .second, .val (.int p1), .val (.int (own_y q1 56)), .val (.int (own_y q1 48)), .val (.int (own_y q1 40)), .val (.int (own_y q1 32)), .val (.int (own_y q1 24)), .val (.int (own_y q1 16)), .val (.int (own_y q1 8)), .val (.int (own_y0 q1))] [(.int (own_y0 q1)), (.int (6 : Int32)), (.ref b1), (.ref b1)]))
                refine ownBastore X42 hx hZ e42 A_b1 ⟨by decide, by decide⟩ (6) (by decide) (Nat.le_of_ble_eq_true rfl) N42 ge_b1 (hb hby d1_266) ?_
                intro T43 h43 L43 X43 e43 N43 W43 A_b1
                have E_b1 := E_b1.wr W43
                have K0 := K0.wr W43 (Or.inr sz_b1)
                have Z0 := own_szW Z0 W43
                have A_b1 : Arv Z h43 b1 k_b1 .byte (7 : Int32) [(.int (nar .byte (own_y q1 48))), (.int (nar .byte (own_y q1 40))), (.int (nar .byte (own_y q1 32))), (.int (nar .byte (own_y q1 24))), (.int (nar .byte (own_y q1 16))), (.int (nar .byte (own_y q1 8))), (.int (nar .byte (own_y0 q1)))] (.int (0 : Int32)) := A_b1
                show ownFin _ _ _ _ _ (T43.setTop (mkF m 267 #[.val (.long q1), .second, .val (.int p1), .val (.int (own_y q1 56)), .val (.int (own_y q1 48)), .val (.int (own_y q1 40)), .val (.int (own_y q1 32)), .val (.int (own_y q1 24)), .val (.int (own_y q1 16)), .val (.int (own_y q1 8)), .val (.int (own_y0 q1))] [(.ref b1)]))
                have hMN : M = 7 := by omega
                refine ownRetA X43 hx hlk (ty := (.array .byte)) hret rfl (hb hby d1_267) (by decide) (by decide) ?_
                show (Q_own_octets Z q1 p1 h0 n0 M) (some (.ref b1)) T43.heap _
                rw [e43]
                exact ⟨b1, k_b1, rfl, N43, K0, sz_b1, E_b1, by rw [(own_lit hM (by rw [hMN]; decide) : p1 = (7 : Int32)), hMN]; exact A_b1⟩
              case neg =>
                have hc35I : ¬ (M : Int) = 7 := fun q => hc35 ((own_eqi hM (by decide)).mpr q)
                refine ownVia (fun _ k => XS.icmpYes X0.here hx rfl (pc0 := 224) (pc' := 268) rfl (hb hby d1_224) rfl (feq hc35).2 (by decide) (by decide) k) ?_
                show ownFin _ _ _ _ _ (T0.setTop (mkF m 268 #[.val (.long q1), .second, .val (.int p1), .val (.int (own_y q1 56)), .val (.int (own_y q1 48)), .val (.int (own_y q1 40)), .val (.int (own_y q1 32)), .val (.int (own_y q1 24)), .val (.int (own_y q1 16)), .val (.int (own_y q1 8)), .val (.int (own_y0 q1))] []))
                refine ownVia (fun _ k => XS.bipush X0.here hx rfl (hb hby d1_268) k) ?_
                show ownFin _ _ _ _ _ (T0.setTop (mkF m 270 #[.val (.long q1), .second, .val (.int p1), .val (.int (own_y q1 56)), .val (.int (own_y q1 48)), .val (.int (own_y q1 40)), .val (.int (own_y q1 32)), .val (.int (own_y q1 24)), .val (.int (own_y q1 16)), .val (.int (own_y q1 8)), .val (.int (own_y0 q1))] [(.int (8 : Int32))]))
                refine ownNewP X0 hx hZ (hw _ (List.mem_of_getElem? (i := 8) rfl)) e0 "[B" (by decide) (by decide) (8) (by decide) (8) (by decide) (by decide) (by decide) (by decide) (hb hby d1_270) ?_
                intro T44 h44 k_b1 b1 g44 X44 e44 E44 A_b1 E_b1
                have ge_b1 : n0 ≤ b1 := Nat.le_trans Z0 (Nat.le_of_eq g44.symm)
                have sz_b1 : h0.size ≤ b1 := Nat.le_trans K0.1 (Nat.le_of_eq g44.symm)
                have K0 := K0.ext E44
                have Z0 := own_sz Z0 E44
                have A_b1 : Arv Z h44 b1 k_b1 .byte (8 : Int32) [(.int (0 : Int32)), (.int (0 : Int32)), (.int (0 : Int32)), (.int (0 : Int32)), (.int (0 : Int32)), (.int (0 : Int32)), (.int (0 : Int32)), (.int (0 : Int32))] (.int (0 : Int32)) := A_b1
                show ownFin _ _ _ _ _ (T44.setTop (mkF m 272 #[.val (.long q1), .second, .val (.int p1), .val (.int (own_y q1 56)), .val (.int (own_y q1 48)), .val (.int (own_y q1 40)), .val (.int (own_y q1 32)), .val (.int (own_y q1 24)), .val (.int (own_y q1 16)), .val (.int (own_y q1 8)), .val (.int (own_y0 q1))] [(.ref b1)]))
                refine ownVia (fun _ k => XS.dup X44.here hx rfl (hb hby d1_272) rfl rfl k) ?_
                show ownFin _ _ _ _ _ (T44.setTop (mkF m 273 #[.val (.long q1), .second, .val (.int p1), .val (.int (own_y q1 56)), .val (.int (own_y q1 48)), .val (.int (own_y q1 40)), .val (.int (own_y q1 32)), .val (.int (own_y q1 24)), .val (.int (own_y q1 16)), .val (.int (own_y q1 8)), .val (.int (own_y0 q1))] [(.ref b1), (.ref b1)]))
                refine ownVia (fun _ k => XS.iconst X44.here hx rfl (hb hby d1_273) k) ?_
                show ownFin _ _ _ _ _ (T44.setTop (mkF m 274 #[.val (.long q1), .second, .val (.int p1), .val (.int (own_y q1 56)), .val (.int (own_y q1 48)), .val (.int (own_y q1 40)), .val (.int (own_y q1 32)), .val (.int (own_y q1 24)), .val (.int (own_y q1 16)), .val (.int (own_y q1 8)), .val (.int (own_y0 q1))] [(.int (0 : Int32)), (.ref b1), (.ref b1)]))
                refine ownVia (fun _ k => XS.iloadN X44.here hx rfl (hb hby d1_274) rfl k) ?_
                show ownFin _ _ _ _ _ (T44.setTop (mkF m 275 #[.val (.long q1), .second, .val (.int p1), .val (.int (own_y q1 56)), .val (.int (own_y q1 48)), .val (.int (own_y q1 40)), .val (.int (own_y q1 32)), .val (.int (own_y q1 24)), .val (.int (own_y q1 16)), .val (.int (own_y q1 8)), .val (.int (own_y0 q1))] [(.int (own_y q1 56)), (.int (0 : Int32)), (.ref b1), (.ref b1)]))
                refine ownBastore X44 hx hZ e44 A_b1 ⟨by decide, by decide⟩ (0) (by decide) (Nat.le_of_ble_eq_true rfl) N0 ge_b1 (hb hby d1_275) ?_
                intro T45 h45 L45 X45 e45 N45 W45 A_b1
                have E_b1 := E_b1.wr W45
                have K0 := K0.wr W45 (Or.inr sz_b1)
                have Z0 := own_szW Z0 W45
                have A_b1 : Arv Z h45 b1 k_b1 .byte (8 : Int32) [(.int (nar .byte (own_y q1 56))), (.int (0 : Int32)), (.int (0 : Int32)), (.int (0 : Int32)), (.int (0 : Int32)), (.int (0 : Int32)), (.int (0 : Int32)), (.int (0 : Int32))] (.int (0 : Int32)) := A_b1
                show ownFin _ _ _ _ _ (T45.setTop (mkF m 276 #[.val (.long q1), .second, .val (.int p1), .val (.int (own_y q1 56)), .val (.int (own_y q1 48)), .val (.int (own_y q1 40)), .val (.int (own_y q1 32)), .val (.int (own_y q1 24)), .val (.int (own_y q1 16)), .val (.int (own_y q1 8)), .val (.int (own_y0 q1))] [(.ref b1)]))
                refine ownVia (fun _ k => XS.dup X45.here hx rfl (hb hby d1_276) rfl rfl k) ?_
                show ownFin _ _ _ _ _ (T45.setTop (mkF m 277 #[.val (.long q1), .second, .val (.int p1), .val (.int (own_y q1 56)), .val (.int (own_y q1 48)), .val (.int (own_y q1 40)), .val (.int (own_y q1 32)), .val (.int (own_y q1 24)), .val (.int (own_y q1 16)), .val (.int (own_y q1 8)), .val (.int (own_y0 q1))] [(.ref b1), (.ref b1)]))
                refine ownVia (fun _ k => XS.iconst X45.here hx rfl (hb hby d1_277) k) ?_
                show ownFin _ _ _ _ _ (T45.setTop (mkF m 278 #[.val (.long q1), .second, .val (.int p1), .val (.int (own_y q1 56)), .val (.int (own_y q1 48)), .val (.int (own_y q1 40)), .val (.int (own_y q1 32)), .val (.int (own_y q1 24)), .val (.int (own_y q1 16)), .val (.int (own_y q1 8)), .val (.int (own_y0 q1))] [(.int (1 : Int32)), (.ref b1), (.ref b1)]))
                refine ownVia (fun _ k => XS.iload X45.here hx rfl (hb hby d1_278) rfl k) ?_
                show ownFin _ _ _ _ _ (T45.setTop (mkF m 280 #[.val (.long q1), .second, .val (.int p1), .val (.int (own_y q1 56)), .val (.int (own_y q1 48)), .val (.int (own_y q1 40)), .val (.int (own_y q1 32)), .val (.int (own_y q1 24)), .val (.int (own_y q1 16)), .val (.int (own_y q1 8)), .val (.int (own_y0 q1))] [(.int (own_y q1 48)), (.int (1 : Int32)), (.ref b1), (.ref b1)]))
                refine ownBastore X45 hx hZ e45 A_b1 ⟨by decide, by decide⟩ (1) (by decide) (Nat.le_of_ble_eq_true rfl) N45 ge_b1 (hb hby d1_280) ?_
                intro T46 h46 L46 X46 e46 N46 W46 A_b1
                have E_b1 := E_b1.wr W46
                have K0 := K0.wr W46 (Or.inr sz_b1)
                have Z0 := own_szW Z0 W46
                have A_b1 : Arv Z h46 b1 k_b1 .byte (8 : Int32) [(.int (nar .byte (own_y q1 56))), (.int (nar .byte (own_y q1 48))), (.int (0 : Int32)), (.int (0 : Int32)), (.int (0 : Int32)), (.int (0 : Int32)), (.int (0 : Int32)), (.int (0 : Int32))] (.int (0 : Int32)) := A_b1
                show ownFin _ _ _ _ _ (T46.setTop (mkF m 281 #[.val (.long q1), .second, .val (.int p1), .val (.int (own_y q1 56)), .val (.int (own_y q1 48)), .val (.int (own_y q1 40)), .val (.int (own_y q1 32)), .val (.int (own_y q1 24)), .val (.int (own_y q1 16)), .val (.int (own_y q1 8)), .val (.int (own_y0 q1))] [(.ref b1)]))
                refine ownVia (fun _ k => XS.dup X46.here hx rfl (hb hby d1_281) rfl rfl k) ?_
                show ownFin _ _ _ _ _ (T46.setTop (mkF m 282 #[.val (.long q1), .second, .val (.int p1), .val (.int (own_y q1 56)), .val (.int (own_y q1 48)), .val (.int (own_y q1 40)), .val (.int (own_y q1 32)), .val (.int (own_y q1 24)), .val (.int (own_y q1 16)), .val (.int (own_y q1 8)), .val (.int (own_y0 q1))] [(.ref b1), (.ref b1)]))
                refine ownVia (fun _ k => XS.iconst X46.here hx rfl (hb hby d1_282) k) ?_
                show ownFin _ _ _ _ _ (T46.setTop (mkF m 283 #[.val (.long q1), .second, .val (.int p1), .val (.int (own_y q1 56)), .val (.int (own_y q1 48)), .val (.int (own_y q1 40)), .val (.int (own_y q1 32)), .val (.int (own_y q1 24)), .val (.int (own_y q1 16)), .val (.int (own_y q1 8)), .val (.int (own_y0 q1))] [(.int (2 : Int32)), (.ref b1), (.ref b1)]))
                refine ownVia (fun _ k => XS.iload X46.here hx rfl (hb hby d1_283) rfl k) ?_
                show ownFin _ _ _ _ _ (T46.setTop (mkF m 285 #[.val (.long q1), .second, .val (.int p1), .val (.int (own_y q1 56)), .val (.int (own_y q1 48)), .val (.int (own_y q1 40)), .val (.int (own_y q1 32)), .val (.int (own_y q1 24)), .val (.int (own_y q1 16)), .val (.int (own_y q1 8)), .val (.int (own_y0 q1))] [(.int (own_y q1 40)), (.int (2 : Int32)), (.ref b1), (.ref b1)]))
                refine ownBastore X46 hx hZ e46 A_b1 ⟨by decide, by decide⟩ (2) (by decide) (Nat.le_of_ble_eq_true rfl) N46 ge_b1 (hb hby d1_285) ?_
                intro T47 h47 L47 X47 e47 N47 W47 A_b1
                have E_b1 := E_b1.wr W47
                have K0 := K0.wr W47 (Or.inr sz_b1)
                have Z0 := own_szW Z0 W47
                have A_b1 : Arv Z h47 b1 k_b1 .byte (8 : Int32) [(.int (nar .byte (own_y q1 56))), (.int (nar .byte (own_y q1 48))), (.int (nar .byte (own_y q1 40))), (.int (0 : Int32)), (.int (0 : Int32)), (.int (0 : Int32)), (.int (0 : Int32)), (.int (0 : Int32))] (.int (0 : Int32)) := A_b1
                show ownFin _ _ _ _ _ (T47.setTop (mkF m 286 #[.val (.long q1), .second, .val (.int p1), .val (.int (own_y q1 56)), .val (.int (own_y q1 48)), .val (.int (own_y q1 40)), .val (.int (own_y q1 32)), .val (.int (own_y q1 24)), .val (.int (own_y q1 16)), .val (.int (own_y q1 8)), .val (.int (own_y0 q1))] [(.ref b1)]))
                refine ownVia (fun _ k => XS.dup X47.here hx rfl (hb hby d1_286) rfl rfl k) ?_
                show ownFin _ _ _ _ _ (T47.setTop (mkF m 287 #[.val (.long q1), .second, .val (.int p1), .val (.int (own_y q1 56)), .val (.int (own_y q1 48)), .val (.int (own_y q1 40)), .val (.int (own_y q1 32)), .val (.int (own_y q1 24)), .val (.int (own_y q1 16)), .val (.int (own_y q1 8)), .val (.int (own_y0 q1))] [(.ref b1), (.ref b1)]))
                refine ownVia (fun _ k => XS.iconst X47.here hx rfl (hb hby d1_287) k) ?_
                show ownFin _ _ _ _ _ (T47.setTop (mkF m 288 #[.val (.long q1), .second, .val (.int p1), .val (.int (own_y q1 56)), .val (.int (own_y q1 48)), .val (.int (own_y q1 40)), .val (.int (own_y q1 32)), .val (.int (own_y q1 24)), .val (.int (own_y q1 16)), .val (.int (own_y q1 8)), .val (.int (own_y0 q1))] [(.int (3 : Int32)), (.ref b1), (.ref b1)]))
                refine ownVia (fun _ k => XS.iload X47.here hx rfl (hb hby d1_288) rfl k) ?_
                show ownFin _ _ _ _ _ (T47.setTop (mkF m 290 #[.val (.long q1), .second, .val (.int p1), .val (.int (own_y q1 56)), .val (.int (own_y q1 48)), .val (.int (own_y q1 40)), .val (.int (own_y q1 32)), .val (.int (own_y q1 24)), .val (.int (own_y q1 16)), .val (.int (own_y q1 8)), .val (.int (own_y0 q1))] [(.int (own_y q1 32)), (.int (3 : Int32)), (.ref b1), (.ref b1)]))
                refine ownBastore X47 hx hZ e47 A_b1 ⟨by decide, by decide⟩ (3) (by decide) (Nat.le_of_ble_eq_true rfl) N47 ge_b1 (hb hby d1_290) ?_
                intro T48 h48 L48 X48 e48 N48 W48 A_b1
                have E_b1 := E_b1.wr W48
                have K0 := K0.wr W48 (Or.inr sz_b1)
                have Z0 := own_szW Z0 W48
                have A_b1 : Arv Z h48 b1 k_b1 .byte (8 : Int32) [(.int (nar .byte (own_y q1 56))), (.int (nar .byte (own_y q1 48))), (.int (nar .byte (own_y q1 40))), (.int (nar .byte (own_y q1 32))), (.int (0 : Int32)), (.int (0 : Int32)), (.int (0 : Int32)), (.int (0 : Int32))] (.int (0 : Int32)) := A_b1
                show ownFin _ _ _ _ _ (T48.setTop (mkF m 291 #[.val (.long q1), .second, .val (.int p1), .val (.int (own_y q1 56)), .val (.int (own_y q1 48)), .val (.int (own_y q1 40)), .val (.int (own_y q1 32)), .val (.int (own_y q1 24)), .val (.int (own_y q1 16)), .val (.int (own_y q1 8)), .val (.int (own_y0 q1))] [(.ref b1)]))
                refine ownVia (fun _ k => XS.dup X48.here hx rfl (hb hby d1_291) rfl rfl k) ?_
                show ownFin _ _ _ _ _ (T48.setTop (mkF m 292 #[.val (.long q1), .second, .val (.int p1), .val (.int (own_y q1 56)), .val (.int (own_y q1 48)), .val (.int (own_y q1 40)), .val (.int (own_y q1 32)), .val (.int (own_y q1 24)), .val (.int (own_y q1 16)), .val (.int (own_y q1 8)), .val (.int (own_y0 q1))] [(.ref b1), (.ref b1)]))
                refine ownVia (fun _ k => XS.iconst X48.here hx rfl (hb hby d1_292) k) ?_
                show ownFin _ _ _ _ _ (T48.setTop (mkF m 293 #[.val (.long q1), .second, .val (.int p1), .val (.int (own_y q1 56)), .val (.int (own_y q1 48)), .val (.int (own_y q1 40)), .val (.int (own_y q1 32)), .val (.int (own_y q1 24)), .val (.int (own_y q1 16)), .val (.int (own_y q1 8)), .val (.int (own_y0 q1))] [(.int (4 : Int32)), (.ref b1), (.ref b1)]))
                refine ownVia (fun _ k => XS.iload X48.here hx rfl (hb hby d1_293) rfl k) ?_
                show ownFin _ _ _ _ _ (T48.setTop (mkF m 295 #[.val (.long q1), .second, .val (.int p1), .val (.int (own_y q1 56)), .val (.int (own_y q1 48)), .val (.int (own_y q1 40)), .val (.int (own_y q1 32)), .val (.int (own_y q1 24)), .val (.int (own_y q1 16)), .val (.int (own_y q1 8)), .val (.int (own_y0 q1))] [(.int (own_y q1 24)), (.int (4 : Int32)), (.ref b1), (.ref b1)]))
                refine ownBastore X48 hx hZ e48 A_b1 ⟨by decide, by decide⟩ (4) (by decide) (Nat.le_of_ble_eq_true rfl) N48 ge_b1 (hb hby d1_295) ?_
                intro T49 h49 L49 X49 e49 N49 W49 A_b1
                have E_b1 := E_b1.wr W49
                have K0 := K0.wr W49 (Or.inr sz_b1)
                have Z0 := own_szW Z0 W49
                have A_b1 : Arv Z h49 b1 k_b1 .byte (8 : Int32) [(.int (nar .byte (own_y q1 56))), (.int (nar .byte (own_y q1 48))), (.int (nar .byte (own_y q1 40))), (.int (nar .byte (own_y q1 32))), (.int (nar .byte (own_y q1 24))), (.int (0 : Int32)), (.int (0 : Int32)), (.int (0 : Int32))] (.int (0 : Int32)) := A_b1
                show ownFin _ _ _ _ _ (T49.setTop (mkF m 296 #[.val (.long q1), .second, .val (.int p1), .val (.int (own_y q1 56)), .val (.int (own_y q1 48)), .val (.int (own_y q1 40)), .val (.int (own_y q1 32)), .val (.int (own_y q1 24)), .val (.int (own_y q1 16)), .val (.int (own_y q1 8)), .val (.int (own_y0 q1))] [(.ref b1)]))
                refine ownVia (fun _ k => XS.dup X49.here hx rfl (hb hby d1_296) rfl rfl k) ?_
                show ownFin _ _ _ _ _ (T49.setTop (mkF m 297 #[.val (.long q1), .second, .val (.int p1), .val (.int (own_y q1 56)), .val (.int (own_y q1 48)), .val (.int (own_y q1 40)), .val (.int (own_y q1 32)), .val (.int (own_y q1 24)), .val (.int (own_y q1 16)), .val (.int (own_y q1 8)), .val (.int (own_y0 q1))] [(.ref b1), (.ref b1)]))
                refine ownVia (fun _ k => XS.iconst X49.here hx rfl (hb hby d1_297) k) ?_
                show ownFin _ _ _ _ _ (T49.setTop (mkF m 298 #[.val (.long q1), .second, .val (.int p1), .val (.int (own_y q1 56)), .val (.int (own_y q1 48)), .val (.int (own_y q1 40)), .val (.int (own_y q1 32)), .val (.int (own_y q1 24)), .val (.int (own_y q1 16)), .val (.int (own_y q1 8)), .val (.int (own_y0 q1))] [(.int (5 : Int32)), (.ref b1), (.ref b1)]))
                refine ownVia (fun _ k => XS.iload X49.here hx rfl (hb hby d1_298) rfl k) ?_
                show ownFin _ _ _ _ _ (T49.setTop (mkF m 300 #[.val (.long q1), .second, .val (.int p1), .val (.int (own_y q1 56)), .val (.int (own_y q1 48)), .val (.int (own_y q1 40)), .val (.int (own_y q1 32)), .val (.int (own_y q1 24)), .val (.int (own_y q1 16)), .val (.int (own_y q1 8)), .val (.int (own_y0 q1))] [(.int (own_y q1 16)), (.int (5 : Int32)), (.ref b1), (.ref b1)]))
                refine ownBastore X49 hx hZ e49 A_b1 ⟨by decide, by decide⟩ (5) (by decide) (Nat.le_of_ble_eq_true rfl) N49 ge_b1 (hb hby d1_300) ?_
                intro T50 h50 L50 X50 e50 N50 W50 A_b1
                have E_b1 := E_b1.wr W50
                have K0 := K0.wr W50 (Or.inr sz_b1)
                have Z0 := own_szW Z0 W50
                have A_b1 : Arv Z h50 b1 k_b1 .byte (8 : Int32) [(.int (nar .byte (own_y q1 56))), (.int (nar .byte (own_y q1 48))), (.int (nar .byte (own_y q1 40))), (.int (nar .byte (own_y q1 32))), (.int (nar .byte (own_y q1 24))), (.int (nar .byte (own_y q1 16))), (.int (0 : Int32)), (.int (0 : Int32))] (.int (0 : Int32)) := A_b1
                show ownFin _ _ _ _ _ (T50.setTop (mkF m 301 #[.val (.long q1), .second, .val (.int p1), .val (.int (own_y q1 56)), .val (.int (own_y q1 48)), .val (.int (own_y q1 40)), .val (.int (own_y q1 32)), .val (.int (own_y q1 24)), .val (.int (own_y q1 16)), .val (.int (own_y q1 8)), .val (.int (own_y0 q1))] [(.ref b1)]))
                refine ownVia (fun _ k => XS.dup X50.here hx rfl (hb hby d1_301) rfl rfl k) ?_
                show ownFin _ _ _ _ _ (T50.setTop (mkF m 302 #[.val (.long q1), .second, .val (.int p1), .val (.int (own_y q1 56)), .val (.int (own_y q1 48)), .val (.int (own_y q1 40)), .val (.int (own_y q1 32)), .val (.int (own_y q1 24)), .val (.int (own_y q1 16)), .val (.int (own_y q1 8)), .val (.int (own_y0 q1))] [(.ref b1), (.ref b1)]))
                refine ownVia (fun _ k => XS.bipush X50.here hx rfl (hb hby d1_302) k) ?_
                show ownFin _ _ _ _ _ (T50.setTop (mkF m 304 #[.val (.long q1), .second, .val (.int p1), .val (.int (own_y q1 56)), .val (.int (own_y q1 48)), .val (.int (own_y q1 40)), .val (.int (own_y q1 32)), .val (.int (own_y q1 24)), .val (.int (own_y q1 16)), .val (.int (own_y q1 8)), .val (.int (own_y0 q1))] [(.int (6 : Int32)), (.ref b1), (.ref b1)]))
                refine ownVia (fun _ k => XS.iload X50.here hx rfl (hb hby d1_304) rfl k) ?_
                show ownFin _ _ _ _ _ (T50.setTop (mkF m 306 #[.val (.long q1), .second, .val (.int p1), .val (.int (own_y q1 56)), .val (.int (own_y q1 48)), .val (.int (own_y q1 40)), .val (.int (own_y q1 32)), .val (.int (own_y q1 24)), .val (.int (own_y q1 16)), .val (.int (own_y q1 8)), .val (.int (own_y0 q1))] [(.int (own_y q1 8)), (.int (6 : Int32)), (.ref b1), (.ref b1)]))
                refine ownBastore X50 hx hZ e50 A_b1 ⟨by decide, by decide⟩ (6) (by decide) (Nat.le_of_ble_eq_true rfl) N50 ge_b1 (hb hby d1_306) ?_
                intro T51 h51 L51 X51 e51 N51 W51 A_b1
                have E_b1 := E_b1.wr W51
                have K0 := K0.wr W51 (Or.inr sz_b1)
                have Z0 := own_szW Z0 W51
                have A_b1 : Arv Z h51 b1 k_b1 .byte (8 : Int32) [(.int (nar .byte (own_y q1 56))), (.int (nar .byte (own_y q1 48))), (.int (nar .byte (own_y q1 40))), (.int (nar .byte (own_y q1 32))), (.int (nar .byte (own_y q1 24))), (.int (nar .byte (own_y q1 16))), (.int (nar .byte (own_y q1 8))), (.int (0 : Int32))] (.int (0 : Int32)) := A_b1
                show ownFin _ _ _ _ _ (T51.setTop (mkF m 307 #[.val (.long q1), .second, .val (.int p1), .val (.int (own_y q1 56)), .val (.int (own_y q1 48)), .val (.int (own_y q1 40)), .val (.int (own_y q1 32)), .val (.int (own_y q1 24)), .val (.int (own_y q1 16)), .val (.int (own_y q1 8)), .val (.int (own_y0 q1))] [(.ref b1)]))
                refine ownVia (fun _ k => XS.dup X51.here hx rfl (hb hby d1_307) rfl rfl k) ?_
                show ownFin _ _ _ _ _ (T51.setTop (mkF m 308 #[.val (.long q1), .second, .val (.int p1), .val (.int (own_y q1 56)), .val (.int (own_y q1 48)), .val (.int (own_y q1 40)), .val (.int (own_y q1 32)), .val (.int (own_y q1 24)), .val (.int (own_y q1 16)), .val (.int (own_y q1 8)), .val (.int (own_y0 q1))] [(.ref b1), (.ref b1)]))
                refine ownVia (fun _ k => XS.bipush X51.here hx rfl (hb hby d1_308) k) ?_
                show ownFin _ _ _ _ _ (T51.setTop (mkF m 310 #[.val (.long q1), .second, .val (.int p1), .val (.int (own_y q1 56)), .val (.int (own_y q1 48)), .val (.int (own_y q1 40)), .val (.int (own_y q1 32)), .val (.int (own_y q1 24)), .val (.int (own_y q1 16)), .val (.int (own_y q1 8)), .val (.int (own_y0 q1))] [(.int (7 : Int32)), (.ref b1), (.ref b1)]))
                refine ownVia (fun _ k => XS.iload X51.here hx rfl (hb hby d1_310) rfl k) ?_
                show ownFin _ _ _ _ _ (T51.setTop (mkF m 312 #[.val (.long q1), .second, .val (.int p1), .val (.int (own_y q1 56)), .val (.int (own_y q1 48)), .val (.int (own_y q1 40)), .val (.int (own_y q1 32)), .val (.int (own_y q1 24)), .val (.int (own_y q1 16)), .val (.int (own_y q1 8)), .val (.int (own_y0 q1))] [(.int (own_y0 q1)), (.int (7 : Int32)), (.ref b1), (.ref b1)]))
                refine ownBastore X51 hx hZ e51 A_b1 ⟨by decide, by decide⟩ (7) (by decide) (Nat.le_of_ble_eq_true rfl) N51 ge_b1 (hb hby d1_312) ?_
                intro T52 h52 L52 X52 e52 N52 W52 A_b1
                have E_b1 := E_b1.wr W52
                have K0 := K0.wr W52 (Or.inr sz_b1)
                have Z0 := own_szW Z0 W52
                have A_b1 : Arv Z h52 b1 k_b1 .byte (8 : Int32) [(.int (nar .byte (own_y q1 56))), (.int (nar .byte (own_y q1 48))), (.int (nar .byte (own_y q1 40))), (.int (nar .byte (own_y q1 32))), (.int (nar .byte (own_y q1 24))), (.int (nar .byte (own_y q1 16))), (.int (nar .byte (own_y q1 8))), (.int (nar .byte (own_y0 q1)))] (.int (0 : Int32)) := A_b1
                show ownFin _ _ _ _ _ (T52.setTop (mkF m 313 #[.val (.long q1), .second, .val (.int p1), .val (.int (own_y q1 56)), .val (.int (own_y q1 48)), .val (.int (own_y q1 40)), .val (.int (own_y q1 32)), .val (.int (own_y q1 24)), .val (.int (own_y q1 16)), .val (.int (own_y q1 8)), .val (.int (own_y0 q1))] [(.ref b1)]))
                have hMN : M = 8 := by omega
                refine ownRetA X52 hx hlk (ty := (.array .byte)) hret rfl (hb hby d1_313) (by decide) (by decide) ?_
                show (Q_own_octets Z q1 p1 h0 n0 M) (some (.ref b1)) T52.heap _
                rw [e52]
                exact ⟨b1, k_b1, rfl, N52, K0, sz_b1, E_b1, by rw [(own_lit hM (by rw [hMN]; decide) : p1 = (8 : Int32)), hMN]; exact A_b1⟩
theorem d2_0 : decode prog_8_method_1_code 0 = .ok (.aload_n 0, 1) := by decide +kernel
theorem d2_1 : decode prog_8_method_1_code 1 = .ok (.invokespecial 1, 3) := by decide +kernel
theorem d2_4 : decode prog_8_method_1_code 4 = .ok (.iload_n 1, 1) := by decide +kernel
theorem d2_5 : decode prog_8_method_1_code 5 = .ok (.ifCond .lt 9, 3) := by decide +kernel
theorem d2_8 : decode prog_8_method_1_code 8 = .ok (.iload_n 1, 1) := by decide +kernel
theorem d2_9 : decode prog_8_method_1_code 9 = .ok (.ldc 9, 2) := by decide +kernel
theorem d2_11 : decode prog_8_method_1_code 11 = .ok (.if_icmp .le 17, 3) := by decide +kernel
theorem d2_14 : decode prog_8_method_1_code 14 = .ok (.new 10, 3) := by decide +kernel
theorem d2_17 : decode prog_8_method_1_code 17 = .ok (.dup, 1) := by decide +kernel
theorem d2_18 : decode prog_8_method_1_code 18 = .ok (.iload_n 1, 1) := by decide +kernel
theorem d2_19 : decode prog_8_method_1_code 19 = .ok (.invokedynamic 12, 5) := by decide +kernel
theorem d2_24 : decode prog_8_method_1_code 24 = .ok (.invokespecial 16, 3) := by decide +kernel
theorem d2_27 : decode prog_8_method_1_code 27 = .ok (.athrow, 1) := by decide +kernel
theorem d2_28 : decode prog_8_method_1_code 28 = .ok (.aload_n 2, 1) := by decide +kernel
theorem d2_29 : decode prog_8_method_1_code 29 = .ok (.arraylength, 1) := by decide +kernel
theorem d2_30 : decode prog_8_method_1_code 30 = .ok (.ldc 9, 2) := by decide +kernel
theorem d2_32 : decode prog_8_method_1_code 32 = .ok (.if_icmp .le 18, 3) := by decide +kernel
theorem d2_35 : decode prog_8_method_1_code 35 = .ok (.new 10, 3) := by decide +kernel
theorem d2_38 : decode prog_8_method_1_code 38 = .ok (.dup, 1) := by decide +kernel
theorem d2_39 : decode prog_8_method_1_code 39 = .ok (.aload_n 2, 1) := by decide +kernel
theorem d2_40 : decode prog_8_method_1_code 40 = .ok (.arraylength, 1) := by decide +kernel
theorem d2_41 : decode prog_8_method_1_code 41 = .ok (.invokedynamic 19, 5) := by decide +kernel
theorem d2_46 : decode prog_8_method_1_code 46 = .ok (.invokespecial 16, 3) := by decide +kernel
theorem d2_49 : decode prog_8_method_1_code 49 = .ok (.athrow, 1) := by decide +kernel
theorem d2_50 : decode prog_8_method_1_code 50 = .ok (.aload_n 0, 1) := by decide +kernel
theorem d2_51 : decode prog_8_method_1_code 51 = .ok (.iload_n 1, 1) := by decide +kernel
theorem d2_52 : decode prog_8_method_1_code 52 = .ok (.putfield 20, 3) := by decide +kernel
theorem d2_55 : decode prog_8_method_1_code 55 = .ok (.aload_n 0, 1) := by decide +kernel
theorem d2_56 : decode prog_8_method_1_code 56 = .ok (.aload_n 2, 1) := by decide +kernel
theorem d2_57 : decode prog_8_method_1_code 57 = .ok (.invokevirtual 24, 3) := by decide +kernel
theorem d2_60 : decode prog_8_method_1_code 60 = .ok (.checkcast 25, 3) := by decide +kernel
theorem d2_63 : decode prog_8_method_1_code 63 = .ok (.putfield 30, 3) := by decide +kernel
theorem d2_66 : decode prog_8_method_1_code 66 = .ok (.return_, 1) := by decide +kernel
theorem own_pn1 : plainName "com/example/cairn/cairn/ccnx/Tlv" = true := by first | (simp [plainName, overriddenIn]; done) | decide +kernel
theorem own_ef53 (m : MethodId) (a1 : Addr) (p1 : Int32) (a2 : Addr) : entryFrame m #[(.ref a1), (.int p1), (.ref a2)] 3 = mkF m 0 #[.val (.ref a1), .val (.int p1), .val (.ref a2)] [] := by first | (simp [entryFrame, mkF, argsToLocals, Value.category]; done) | rfl
def Q_own_init (Z : State) (a1 : Addr) (p1 : Int32) (a2 : Addr) (h0 : Heap) (n0 : Nat) (k_a2 : ClassId) (z : Int32) (vs : List Value) (lz : Nat) : Option Value → Heap → List Loc → Prop := fun v h L => v = none ∧ Fr n0 L ∧ Keep h0 h [a1] ∧ ∃ b, h0.size ≤ b ∧ Fld Z h a1 "com/example/cairn/cairn/ccnx/Tlv" "type" "I" (.int p1) ∧ Fld Z h a1 "com/example/cairn/cairn/ccnx/Tlv" "value" "[B" (.ref b) ∧ Arv Z h b k_a2 .byte z vs (.int (0 : Int32))
set_option maxRecDepth 65536 in
set_option maxHeartbeats 40000000 in
theorem own_init (l : Launch) (Z : State) (a0 : Array Value) (hw : ∀ d ∈ tables_1, d.before a0 Z = true)  (a1 : Addr) (p1 : Int32) (a2 : Addr) (h0 : Heap) (n0 : Nat) (k_a2 : ClassId) (z : Int32) (vs : List Value) (lz : Nat) (Z0 : n0 ≤ h0.size) (F_a1_type : Fld Z h0 a1 "com/example/cairn/cairn/ccnx/Tlv" "type" "I" (.int (0 : Int32))) (F_a1_value : Fld Z h0 a1 "com/example/cairn/cairn/ccnx/Tlv" "value" "[B" .null) (E_a1 : Exa Z h0 a1 "com/example/cairn/cairn/ccnx/Tlv") (ge_a1 : n0 ≤ a1) (A_a2 : Arv Z h0 a2 k_a2 .byte z vs (.int (0 : Int32))) (E_a2 : Exa Z h0 a2 "[B") (ne_a1_a2 : a1 ≠ a2) (hp : 0 ≤ p1.toInt ∧ p1.toInt ≤ 65535) (hz : z.toInt = (lz : Int)) (hlz : lz ≤ 8) :
    ownMet l Z (⟨"com/example/cairn/cairn/ccnx/Tlv", "<init>", "(I[B)V"⟩ : MethodName) prog_8_method_1_code 3 none [] ({ frames := 1, cells := 1, slots := 8, locals := 20 } : Room) #[(.ref a1), (.int p1), (.ref a2)] h0 (Q_own_init Z a1 p1 a2 h0 n0 k_a2 z vs lz) := by
  refine ownBody (plainFor_of_name own_pn1) ?_
  intro p e s m below meth c T0 hx hby hml hret hlk hZ hown hnm X0 e0
  have N0 : Fr n0 [] := Fr.nil n0
  refine ownVia (fun _ k => castTop (own_ef53 m a1 p1 a2) k) ?_
  show ownFin _ _ _ _ _ (T0.setTop (mkF m 0 #[.val (.ref a1), .val (.int p1), .val (.ref a2)] []))
  have K0 : Keep h0 h0 [a1] := Keep.refl _ _
  refine ownVia (fun _ k => XS.aloadN X0.here hx rfl (hb hby d2_0) rfl rfl k) ?_
  show ownFin _ _ _ _ _ (T0.setTop (mkF m 1 #[.val (.ref a1), .val (.int p1), .val (.ref a2)] [(.ref a1)]))
  obtain ⟨T54, X54, e54, st54⟩ := initO X0 hx hZ hown (hw _ (List.mem_of_getElem? (i := 12) rfl)) (hw _ (List.mem_of_getElem? (i := 13) rfl)) (hw _ (List.mem_of_getElem? (i := 14) rfl)) e0 (g := (mkF m 1 #[.val (.ref a1), .val (.int p1), .val (.ref a2)] [(.ref a1)])) rfl (by rw [hml]; rfl) rfl (hb hby d2_1) (by decide) (W := 0) (by show 2 * 0 + _ ≤ _; exact Nat.le_of_eq rfl) (by decide)
  refine ownVia st54 ?_
  show ownFin _ _ _ _ _ (T54.setTop (mkF m 4 #[.val (.ref a1), .val (.int p1), .val (.ref a2)] []))
  refine ownVia (fun _ k => XS.iloadN X54.here hx rfl (hb hby d2_4) rfl k) ?_
  show ownFin _ _ _ _ _ (T54.setTop (mkF m 5 #[.val (.ref a1), .val (.int p1), .val (.ref a2)] [(.int p1)]))
  refine ownVia (fun _ k => XS.ifNo X54.here hx rfl (hb hby d2_5) rfl ((if0 _ _).trans (flt (fun q => by have := (own_lti rfl (by decide : (0 : Int32).toInt = 0)).mp q; omega)).1) k) ?_
  show ownFin _ _ _ _ _ (T54.setTop (mkF m 8 #[.val (.ref a1), .val (.int p1), .val (.ref a2)] []))
  refine ownVia (fun _ k => XS.iloadN X54.here hx rfl (hb hby d2_8) rfl k) ?_
  show ownFin _ _ _ _ _ (T54.setTop (mkF m 9 #[.val (.ref a1), .val (.int p1), .val (.ref a2)] [(.int p1)]))
  refine ownVia (fun _ k => X54.ldcInt hx hown (mvT hZ (hw _ (List.mem_of_getElem? (i := 15) rfl))) (g := (mkF m 9 #[.val (.ref a1), .val (.int p1), .val (.ref a2)] [(.int p1)])) rfl (hb hby d2_9) _ k) ?_
  show ownFin _ _ _ _ _ (T54.setTop (mkF m 11 #[.val (.ref a1), .val (.int p1), .val (.ref a2)] [(.int (65535 : Int32)), (.int p1)]))
  refine ownVia (fun _ k => XS.icmpYes X54.here hx rfl (pc0 := 11) (pc' := 28) rfl (hb hby d2_11) rfl (flt (fun q => by have := (own_lti (by decide : (65535 : Int32).toInt = 65535) rfl).mp q; omega)).2.2.2 (by decide) (by decide) k) ?_
  show ownFin _ _ _ _ _ (T54.setTop (mkF m 28 #[.val (.ref a1), .val (.int p1), .val (.ref a2)] []))
  refine ownVia (fun _ k => XS.aloadN X54.here hx rfl (hb hby d2_28) rfl rfl k) ?_
  show ownFin _ _ _ _ _ (T54.setTop (mkF m 29 #[.val (.ref a1), .val (.int p1), .val (.ref a2)] [(.ref a2)]))
  refine ownLen X54 hx hZ e54 A_a2 (hb hby d2_29) ?_
  show ownFin _ _ _ _ _ (T54.setTop (mkF m 30 #[.val (.ref a1), .val (.int p1), .val (.ref a2)] [(.int z)]))
  refine ownVia (fun _ k => X54.ldcInt hx hown (mvT hZ (hw _ (List.mem_of_getElem? (i := 15) rfl))) (g := (mkF m 30 #[.val (.ref a1), .val (.int p1), .val (.ref a2)] [(.int z)])) rfl (hb hby d2_30) _ k) ?_
  show ownFin _ _ _ _ _ (T54.setTop (mkF m 32 #[.val (.ref a1), .val (.int p1), .val (.ref a2)] [(.int (65535 : Int32)), (.int z)]))
  refine ownVia (fun _ k => XS.icmpYes X54.here hx rfl (pc0 := 32) (pc' := 50) rfl (hb hby d2_32) rfl (flt (fun q => by have := (own_lti (by decide : (65535 : Int32).toInt = 65535) hz).mp q; omega)).2.2.2 (by decide) (by decide) k) ?_
  show ownFin _ _ _ _ _ (T54.setTop (mkF m 50 #[.val (.ref a1), .val (.int p1), .val (.ref a2)] []))
  refine ownVia (fun _ k => XS.aloadN X54.here hx rfl (hb hby d2_50) rfl rfl k) ?_
  show ownFin _ _ _ _ _ (T54.setTop (mkF m 51 #[.val (.ref a1), .val (.int p1), .val (.ref a2)] [(.ref a1)]))
  refine ownVia (fun _ k => XS.iloadN X54.here hx rfl (hb hby d2_51) rfl k) ?_
  show ownFin _ _ _ _ _ (T54.setTop (mkF m 52 #[.val (.ref a1), .val (.int p1), .val (.ref a2)] [(.int p1), (.ref a1)]))
  obtain ⟨T55, h55, X55, e55, W55, st55⟩ := putF X54 hx hZ hown (host := "") (Or.inl (hw _ (List.mem_of_getElem? (i := 16) rfl))) Via.refl e54 F_a1_type E_a1 (Or.inr ⟨(hw _ (List.mem_of_getElem? (i := 17) rfl)), rfl, hnm⟩) (hw _ (List.mem_of_getElem? (i := 2) rfl)) (ty := .int) (by decide) rfl rfl (g := (mkF m 52 #[.val (.ref a1), .val (.int p1), .val (.ref a2)] [(.int p1), (.ref a1)])) rfl rfl (hb hby d2_52)
  have N55 := Fr.snoc X55 N0 ge_a1
  have F_a1_type := F_a1_type.same W55
  have F_a1_value := F_a1_value.other W55 (Or.inr (slot_ne (Or.inr (hw _ (List.mem_of_getElem? (i := 28) rfl))) (Or.inr (hw _ (List.mem_of_getElem? (i := 17) rfl))) (by decide) (t := (.array .byte)) (t' := .int) (by decide) (by decide)))
  have E_a1 := E_a1.wr W55
  have A_a2 := A_a2.other W55 (Ne.symm ne_a1_a2)
  have E_a2 := E_a2.wr W55
  have K0 := K0.wr W55 (Or.inl (List.mem_of_getElem? (i := 0) rfl))
  have Z0 := own_szW Z0 W55
  refine ownVia st55 ?_
  show ownFin _ _ _ _ _ (T55.setTop (mkF m 55 #[.val (.ref a1), .val (.int p1), .val (.ref a2)] []))
  refine ownVia (fun _ k => XS.aloadN X55.here hx rfl (hb hby d2_55) rfl rfl k) ?_
  show ownFin _ _ _ _ _ (T55.setTop (mkF m 56 #[.val (.ref a1), .val (.int p1), .val (.ref a2)] [(.ref a1)]))
  refine ownVia (fun _ k => XS.aloadN X55.here hx rfl (hb hby d2_56) rfl rfl k) ?_
  show ownFin _ _ _ _ _ (T55.setTop (mkF m 57 #[.val (.ref a1), .val (.int p1), .val (.ref a2)] [(.ref a2), (.ref a1)]))
  refine ownClone X55 hx hZ hown (hw _ (List.mem_of_getElem? (i := 18) rfl)) (hw _ (List.mem_of_getElem? (i := 19) rfl)) (hw _ (List.mem_of_getElem? (i := 23) rfl)) (hw _ (List.mem_of_getElem? (i := 21) rfl)) (hw _ (List.mem_of_getElem? (i := 22) rfl)) (hw _ (List.mem_of_getElem? (i := 24) rfl)) e55 A_a2 E_a2 (by rw [hml]; rfl) (hb hby d2_57) (by decide) 1 rfl (by decide) (8) (by rw [own_clamp hz]; exact hlz) (by decide) (by decide) ?_
  intro T56 h56 b1 g56 X56 e56 E56 A_b1 E_b1
  have ne_a1_b1 : a1 ≠ b1 := Nat.ne_of_lt (Nat.lt_of_lt_of_le F_a1_type.lt (Nat.le_of_eq g56.symm))
  have ne_a2_b1 : a2 ≠ b1 := Nat.ne_of_lt (Nat.lt_of_lt_of_le A_a2.lt (Nat.le_of_eq g56.symm))
  have ge_b1 : n0 ≤ b1 := Nat.le_trans Z0 (Nat.le_of_eq g56.symm)
  have sz_b1 : h0.size ≤ b1 := Nat.le_trans K0.1 (Nat.le_of_eq g56.symm)
  have F_a1_type := F_a1_type.ext E56
  have F_a1_value := F_a1_value.ext E56
  have E_a1 := E_a1.ext E56
  have A_a2 := A_a2.ext E56
  have E_a2 := E_a2.ext E56
  have K0 := K0.ext E56
  have Z0 := own_sz Z0 E56
  show ownFin _ _ _ _ _ (T56.setTop (mkF m 60 #[.val (.ref a1), .val (.int p1), .val (.ref a2)] [(.ref b1), (.ref a1)]))
  refine ownCast X56 hx hZ hown (hw _ (List.mem_of_getElem? (i := 25) rfl)) e56 (Ins.self E_b1) (hb hby d2_60) ?_
  intro T57 X57 e57
  show ownFin _ _ _ _ _ (T57.setTop (mkF m 63 #[.val (.ref a1), .val (.int p1), .val (.ref a2)] [(.ref b1), (.ref a1)]))
  obtain ⟨T58, h58, X58, e58, W58, st58⟩ := putF X57 hx hZ hown (host := "") (Or.inl (hw _ (List.mem_of_getElem? (i := 27) rfl))) Via.refl e57 F_a1_value E_a1 (Or.inr ⟨(hw _ (List.mem_of_getElem? (i := 28) rfl)), rfl, hnm⟩) (hw _ (List.mem_of_getElem? (i := 2) rfl)) (ty := (.array .byte)) (by decide) rfl rfl (g := (mkF m 63 #[.val (.ref a1), .val (.int p1), .val (.ref a2)] [(.ref b1), (.ref a1)])) rfl rfl (hb hby d2_63)
  have N58 := Fr.snoc X58 N55 ge_a1
  have F_a1_value := F_a1_value.same W58
  have F_a1_type := F_a1_type.other W58 (Or.inr (slot_ne (Or.inr (hw _ (List.mem_of_getElem? (i := 17) rfl))) (Or.inr (hw _ (List.mem_of_getElem? (i := 28) rfl))) (by decide) (t := .int) (t' := (.array .byte)) (by decide) (by decide)))
  have E_a1 := E_a1.wr W58
  have A_a2 := A_a2.other W58 (Ne.symm ne_a1_a2)
  have E_a2 := E_a2.wr W58
  have A_b1 := A_b1.other W58 (Ne.symm ne_a1_b1)
  have E_b1 := E_b1.wr W58
  have K0 := K0.wr W58 (Or.inl (List.mem_of_getElem? (i := 0) rfl))
  have Z0 := own_szW Z0 W58
  refine ownVia st58 ?_
  show ownFin _ _ _ _ _ (T58.setTop (mkF m 66 #[.val (.ref a1), .val (.int p1), .val (.ref a2)] []))
  refine ownRetV X58 hx hlk hret (hb hby d2_66) (by decide) (by decide) ?_
  show (Q_own_init Z a1 p1 a2 h0 n0 k_a2 z vs lz) none T58.heap _
  rw [e58]
  exact ⟨rfl, N58, K0, b1, sz_b1, F_a1_type, F_a1_value, A_b1⟩
theorem d4_0 : decode prog_8_method_5_code 0 = .ok (.lconst 0, 1) := by decide +kernel
theorem d4_1 : decode prog_8_method_5_code 1 = .ok (.lstore_n 1, 1) := by decide +kernel
theorem d4_2 : decode prog_8_method_5_code 2 = .ok (.aload_n 0, 1) := by decide +kernel
theorem d4_3 : decode prog_8_method_5_code 3 = .ok (.getfield 30, 3) := by decide +kernel
theorem d4_6 : decode prog_8_method_5_code 6 = .ok (.astore_n 3, 1) := by decide +kernel
theorem d4_7 : decode prog_8_method_5_code 7 = .ok (.aload_n 3, 1) := by decide +kernel
theorem d4_8 : decode prog_8_method_5_code 8 = .ok (.arraylength, 1) := by decide +kernel
theorem d4_9 : decode prog_8_method_5_code 9 = .ok (.istore 4, 2) := by decide +kernel
theorem d4_11 : decode prog_8_method_5_code 11 = .ok (.iconst 0, 1) := by decide +kernel
theorem d4_12 : decode prog_8_method_5_code 12 = .ok (.istore 5, 2) := by decide +kernel
theorem d4_14 : decode prog_8_method_5_code 14 = .ok (.iload 5, 2) := by decide +kernel
theorem d4_16 : decode prog_8_method_5_code 16 = .ok (.iload 4, 2) := by decide +kernel
theorem d4_18 : decode prog_8_method_5_code 18 = .ok (.if_icmp .ge 28, 3) := by decide +kernel
theorem d4_21 : decode prog_8_method_5_code 21 = .ok (.aload_n 3, 1) := by decide +kernel
theorem d4_22 : decode prog_8_method_5_code 22 = .ok (.iload 5, 2) := by decide +kernel
theorem d4_24 : decode prog_8_method_5_code 24 = .ok (.baload, 1) := by decide +kernel
theorem d4_25 : decode prog_8_method_5_code 25 = .ok (.istore 6, 2) := by decide +kernel
theorem d4_27 : decode prog_8_method_5_code 27 = .ok (.lload_n 1, 1) := by decide +kernel
theorem d4_28 : decode prog_8_method_5_code 28 = .ok (.bipush 8, 2) := by decide +kernel
theorem d4_30 : decode prog_8_method_5_code 30 = .ok (.lshl, 1) := by decide +kernel
theorem d4_31 : decode prog_8_method_5_code 31 = .ok (.iload 6, 2) := by decide +kernel
theorem d4_33 : decode prog_8_method_5_code 33 = .ok (.sipush 255, 3) := by decide +kernel
theorem d4_36 : decode prog_8_method_5_code 36 = .ok (.iand, 1) := by decide +kernel
theorem d4_37 : decode prog_8_method_5_code 37 = .ok (.i2l, 1) := by decide +kernel
theorem d4_38 : decode prog_8_method_5_code 38 = .ok (.lor, 1) := by decide +kernel
theorem d4_39 : decode prog_8_method_5_code 39 = .ok (.lstore_n 1, 1) := by decide +kernel
theorem d4_40 : decode prog_8_method_5_code 40 = .ok (.iinc 5 1, 3) := by decide +kernel
theorem d4_43 : decode prog_8_method_5_code 43 = .ok (.goto (-29), 3) := by decide +kernel
theorem d4_46 : decode prog_8_method_5_code 46 = .ok (.lload_n 1, 1) := by decide +kernel
theorem d4_47 : decode prog_8_method_5_code 47 = .ok (.lreturn, 1) := by decide +kernel
theorem own_ef59 (m : MethodId) (a1 : Addr) : entryFrame m #[(.ref a1)] 7 = mkF m 0 #[.val (.ref a1), .unset, .unset, .unset, .unset, .unset, .unset] [] := by first | (simp [entryFrame, mkF, argsToLocals, Value.category]; done) | rfl
def Q_own_number (Z : State) (a1 : Addr) (h0 : Heap) (n0 : Nat) (b1 : Addr) (k_b1 : ClassId) (z : Int32) (bs : List Int32) : Option Value → Heap → List Loc → Prop := fun v h L => v = some (.long (own_num bs)) ∧ Fr n0 L ∧ h = h0
set_option maxRecDepth 65536 in
set_option maxHeartbeats 40000000 in
theorem own_number (l : Launch) (Z : State) (a0 : Array Value) (hw : ∀ d ∈ tables_1, d.before a0 Z = true)  (a1 : Addr) (h0 : Heap) (n0 : Nat) (b1 : Addr) (k_b1 : ClassId) (z : Int32) (bs : List Int32) (Z0 : n0 ≤ h0.size) (F_a1_value : Fld Z h0 a1 "com/example/cairn/cairn/ccnx/Tlv" "value" "[B" (.ref b1)) (A_b1 : Arv Z h0 b1 k_b1 .byte z (bs.map Value.int) (.int (0 : Int32))) (hz : z.toInt = (bs.length : Int)) :
    ownMet l Z (⟨"com/example/cairn/cairn/ccnx/Tlv", "number", "()J"⟩ : MethodName) prog_8_method_5_code 7 (some .long) [] ({ frames := 0, cells := 0, slots := 0, locals := 0 } : Room) #[(.ref a1)] h0 (Q_own_number Z a1 h0 n0 b1 k_b1 z bs) := by
  refine ownBody (plainFor_of_name own_pn1) ?_
  intro p e s m below meth c T0 hx hby hml hret hlk hZ hown hnm X0 e0
  have N0 : Fr n0 [] := Fr.nil n0
  refine ownVia (fun _ k => castTop (own_ef59 m a1) k) ?_
  show ownFin _ _ _ _ _ (T0.setTop (mkF m 0 #[.val (.ref a1), .unset, .unset, .unset, .unset, .unset, .unset] []))
  refine ownVia (fun _ k => XS.lconst X0.here hx rfl (hb hby d4_0) k) ?_
  show ownFin _ _ _ _ _ (T0.setTop (mkF m 1 #[.val (.ref a1), .unset, .unset, .unset, .unset, .unset, .unset] [(.long (0 : Int64))]))
  refine ownVia (fun _ k => XS.lstoreN X0.here hx rfl (hb hby d4_1) rfl (l' := #[.val (.ref a1), .val (.long (0 : Int64)), .second, .unset, .unset, .unset, .unset]) rfl k) ?_
  show ownFin _ _ _ _ _ (T0.setTop (mkF m 2 #[.val (.ref a1), .val (.long (0 : Int64)), .second, .unset, .unset, .unset, .unset] []))
  refine ownVia (fun _ k => XS.aloadN X0.here hx rfl (hb hby d4_2) rfl rfl k) ?_
  show ownFin _ _ _ _ _ (T0.setTop (mkF m 3 #[.val (.ref a1), .val (.long (0 : Int64)), .second, .unset, .unset, .unset, .unset] [(.ref a1)]))
  obtain ⟨T60, X60, e60, st60⟩ := getF X0 hx hZ hown (host := "") (Or.inl (hw _ (List.mem_of_getElem? (i := 27) rfl))) Via.refl e0 F_a1_value (g := (mkF m 3 #[.val (.ref a1), .val (.long (0 : Int64)), .second, .unset, .unset, .unset, .unset] [(.ref a1)])) rfl rfl (hb hby d4_3)
  refine ownVia st60 ?_
  show ownFin _ _ _ _ _ (T60.setTop (mkF m 6 #[.val (.ref a1), .val (.long (0 : Int64)), .second, .unset, .unset, .unset, .unset] [(.ref b1)]))
  refine ownVia (fun _ k => XS.astoreN X60.here hx rfl (hb hby d4_6) rfl rfl (l' := #[.val (.ref a1), .val (.long (0 : Int64)), .second, .val (.ref b1), .unset, .unset, .unset]) rfl k) ?_
  show ownFin _ _ _ _ _ (T60.setTop (mkF m 7 #[.val (.ref a1), .val (.long (0 : Int64)), .second, .val (.ref b1), .unset, .unset, .unset] []))
  refine ownVia (fun _ k => XS.aloadN X60.here hx rfl (hb hby d4_7) rfl rfl k) ?_
  show ownFin _ _ _ _ _ (T60.setTop (mkF m 8 #[.val (.ref a1), .val (.long (0 : Int64)), .second, .val (.ref b1), .unset, .unset, .unset] [(.ref b1)]))
  refine ownLen X60 hx hZ e60 A_b1 (hb hby d4_8) ?_
  show ownFin _ _ _ _ _ (T60.setTop (mkF m 9 #[.val (.ref a1), .val (.long (0 : Int64)), .second, .val (.ref b1), .unset, .unset, .unset] [(.int z)]))
  refine ownVia (fun _ k => XS.istore X60.here hx rfl (hb hby d4_9) rfl (l' := #[.val (.ref a1), .val (.long (0 : Int64)), .second, .val (.ref b1), .val (.int z), .unset, .unset]) rfl k) ?_
  show ownFin _ _ _ _ _ (T60.setTop (mkF m 11 #[.val (.ref a1), .val (.long (0 : Int64)), .second, .val (.ref b1), .val (.int z), .unset, .unset] []))
  refine ownVia (fun _ k => XS.iconst X60.here hx rfl (hb hby d4_11) k) ?_
  show ownFin _ _ _ _ _ (T60.setTop (mkF m 12 #[.val (.ref a1), .val (.long (0 : Int64)), .second, .val (.ref b1), .val (.int z), .unset, .unset] [(.int (0 : Int32))]))
  refine ownVia (fun _ k => XS.istore X60.here hx rfl (hb hby d4_12) rfl (l' := #[.val (.ref a1), .val (.long (0 : Int64)), .second, .val (.ref b1), .val (.int z), .val (.int (0 : Int32)), .unset]) rfl k) ?_
  show ownFin _ _ _ _ _ (T60.setTop (mkF m 14 #[.val (.ref a1), .val (.long (0 : Int64)), .second, .val (.ref b1), .val (.int z), .val (.int (0 : Int32)), .unset] []))
  have loop : ∀ (n i : Nat) (iv : Int32) (s6 : Slot), One s6 → iv.toInt = (i : Int) → i + n = bs.length → ownFin p e below (ownFE s ({ frames := 0, cells := 0, slots := 0, locals := 0 } : Room).cells ({ frames := 0, cells := 0, slots := 0, locals := 0 } : Room).slots) (Q_own_number Z a1 h0 n0 b1 k_b1 z bs) (T60.setTop (mkF m 14 #[.val (.ref a1), .val (.long (own_num (bs.take i))), .second, .val (.ref b1), .val (.int z), .val (.int iv), s6] [])) := by
    intro n
    induction n with
    | zero =>
      intro i iv s6 hs6 hiv hin
      show ownFin _ _ _ _ _ (T60.setTop (mkF m 14 #[.val (.ref a1), .val (.long (own_num (bs.take i))), .second, .val (.ref b1), .val (.int z), .val (.int iv), s6] []))
      refine ownVia (fun _ k => XS.iload X60.here hx rfl (hb hby d4_14) rfl k) ?_
      show ownFin _ _ _ _ _ (T60.setTop (mkF m 16 #[.val (.ref a1), .val (.long (own_num (bs.take i))), .second, .val (.ref b1), .val (.int z), .val (.int iv), s6] [(.int iv)]))
      refine ownVia (fun _ k => XS.iload X60.here hx rfl (hb hby d4_16) rfl k) ?_
      show ownFin _ _ _ _ _ (T60.setTop (mkF m 18 #[.val (.ref a1), .val (.long (own_num (bs.take i))), .second, .val (.ref b1), .val (.int z), .val (.int iv), s6] [(.int z), (.int iv)]))
      refine ownVia (fun _ k => XS.icmpYes X60.here hx rfl (pc0 := 18) (pc' := 46) rfl (hb hby d4_18) rfl (flt (own_nlt hiv hz (by omega))).2.1 (by decide) (by decide) k) ?_
      show ownFin _ _ _ _ _ (T60.setTop (mkF m 46 #[.val (.ref a1), .val (.long (own_num (bs.take i))), .second, .val (.ref b1), .val (.int z), .val (.int iv), s6] []))
      refine ownVia (fun _ k => XS.lloadN X60.here hx rfl (hb hby d4_46) rfl k) ?_
      show ownFin _ _ _ _ _ (T60.setTop (mkF m 47 #[.val (.ref a1), .val (.long (own_num (bs.take i))), .second, .val (.ref b1), .val (.int z), .val (.int iv), s6] [(.long (own_num (bs.take i)))]))
      have hi : i = bs.length := by omega
      refine ownRetJ X60 hx hlk hret (hb hby d4_47) (by decide) (by decide) ?_
      show (Q_own_number Z a1 h0 n0 b1 k_b1 z bs) (some (.long (own_num (bs.take i)))) T60.heap _
      rw [e60]
      exact ⟨by rw [hi, List.take_length], N0, rfl⟩
    | succ n ih =>
      intro i iv s6 hs6 hiv hin
      show ownFin _ _ _ _ _ (T60.setTop (mkF m 14 #[.val (.ref a1), .val (.long (own_num (bs.take i))), .second, .val (.ref b1), .val (.int z), .val (.int iv), s6] []))
      refine ownVia (fun _ k => XS.iload X60.here hx rfl (hb hby d4_14) rfl k) ?_
      show ownFin _ _ _ _ _ (T60.setTop (mkF m 16 #[.val (.ref a1), .val (.long (own_num (bs.take i))), .second, .val (.ref b1), .val (.int z), .val (.int iv), s6] [(.int iv)]))
      refine ownVia (fun _ k => XS.iload X60.here hx rfl (hb hby d4_16) rfl k) ?_
      show ownFin _ _ _ _ _ (T60.setTop (mkF m 18 #[.val (.ref a1), .val (.long (own_num (bs.take i))), .second, .val (.ref b1), .val (.int z), .val (.int iv), s6] [(.int z), (.int iv)]))
      refine ownVia (fun _ k => XS.icmpNo X60.here hx rfl (hb hby d4_18) rfl (tlt ((own_lti hiv hz).mpr (by omega))).2.1 k) ?_
      show ownFin _ _ _ _ _ (T60.setTop (mkF m 21 #[.val (.ref a1), .val (.long (own_num (bs.take i))), .second, .val (.ref b1), .val (.int z), .val (.int iv), s6] []))
      refine ownVia (fun _ k => XS.aloadN X60.here hx rfl (hb hby d4_21) rfl rfl k) ?_
      show ownFin _ _ _ _ _ (T60.setTop (mkF m 22 #[.val (.ref a1), .val (.long (own_num (bs.take i))), .second, .val (.ref b1), .val (.int z), .val (.int iv), s6] [(.ref b1)]))
      refine ownVia (fun _ k => XS.iload X60.here hx rfl (hb hby d4_22) rfl k) ?_
      show ownFin _ _ _ _ _ (T60.setTop (mkF m 24 #[.val (.ref a1), .val (.long (own_num (bs.take i))), .second, .val (.ref b1), .val (.int z), .val (.int iv), s6] [(.int iv), (.ref b1)]))
      refine ownBaload X60 hx hZ e60 A_b1 (own_idx hz (by omega) (by omega)) (v := (.int (bs.getD i 0))) (by rw [own_clamp hiv]; exact own_getD_map Value.int 0 bs i) (hb hby d4_24) ?_
      show ownFin _ _ _ _ _ (T60.setTop (mkF m 25 #[.val (.ref a1), .val (.long (own_num (bs.take i))), .second, .val (.ref b1), .val (.int z), .val (.int iv), s6] [(.int (bs.getD i 0))]))
      refine ownVia (fun _ k => XS.istoreS X60.here hx rfl (hb hby d4_25) rfl rfl hs6 k) ?_
      show ownFin _ _ _ _ _ (T60.setTop (mkF m 27 #[.val (.ref a1), .val (.long (own_num (bs.take i))), .second, .val (.ref b1), .val (.int z), .val (.int iv), .val (.int (bs.getD i 0))] []))
      refine ownVia (fun _ k => XS.lloadN X60.here hx rfl (hb hby d4_27) rfl k) ?_
      show ownFin _ _ _ _ _ (T60.setTop (mkF m 28 #[.val (.ref a1), .val (.long (own_num (bs.take i))), .second, .val (.ref b1), .val (.int z), .val (.int iv), .val (.int (bs.getD i 0))] [(.long (own_num (bs.take i)))]))
      refine ownVia (fun _ k => XS.bipush X60.here hx rfl (hb hby d4_28) k) ?_
      show ownFin _ _ _ _ _ (T60.setTop (mkF m 30 #[.val (.ref a1), .val (.long (own_num (bs.take i))), .second, .val (.ref b1), .val (.int z), .val (.int iv), .val (.int (bs.getD i 0))] [(.int (8 : Int32)), (.long (own_num (bs.take i)))]))
      refine ownVia (fun _ k => XS.lshl X60.here hx rfl (hb hby d4_30) rfl k) ?_
      show ownFin _ _ _ _ _ (T60.setTop (mkF m 31 #[.val (.ref a1), .val (.long (own_num (bs.take i))), .second, .val (.ref b1), .val (.int z), .val (.int iv), .val (.int (bs.getD i 0))] [(.long ((own_num (bs.take i)) <<< ((8 : Int32) &&& 0x3f).toInt64))]))
      refine ownVia (fun _ k => XS.iload X60.here hx rfl (hb hby d4_31) rfl k) ?_
      show ownFin _ _ _ _ _ (T60.setTop (mkF m 33 #[.val (.ref a1), .val (.long (own_num (bs.take i))), .second, .val (.ref b1), .val (.int z), .val (.int iv), .val (.int (bs.getD i 0))] [(.int (bs.getD i 0)), (.long ((own_num (bs.take i)) <<< ((8 : Int32) &&& 0x3f).toInt64))]))
      refine ownVia (fun _ k => XS.sipush X60.here hx rfl (hb hby d4_33) k) ?_
      show ownFin _ _ _ _ _ (T60.setTop (mkF m 36 #[.val (.ref a1), .val (.long (own_num (bs.take i))), .second, .val (.ref b1), .val (.int z), .val (.int iv), .val (.int (bs.getD i 0))] [(.int (255 : Int32)), (.int (bs.getD i 0)), (.long ((own_num (bs.take i)) <<< ((8 : Int32) &&& 0x3f).toInt64))]))
      refine ownVia (fun _ k => XS.iand X60.here hx rfl (hb hby d4_36) rfl k) ?_
      show ownFin _ _ _ _ _ (T60.setTop (mkF m 37 #[.val (.ref a1), .val (.long (own_num (bs.take i))), .second, .val (.ref b1), .val (.int z), .val (.int iv), .val (.int (bs.getD i 0))] [(.int ((bs.getD i 0) &&& (255 : Int32))), (.long ((own_num (bs.take i)) <<< ((8 : Int32) &&& 0x3f).toInt64))]))
      refine ownVia (fun _ k => XS.i2l X60.here hx rfl (hb hby d4_37) rfl k) ?_
      show ownFin _ _ _ _ _ (T60.setTop (mkF m 38 #[.val (.ref a1), .val (.long (own_num (bs.take i))), .second, .val (.ref b1), .val (.int z), .val (.int iv), .val (.int (bs.getD i 0))] [(.long (((bs.getD i 0) &&& (255 : Int32)).toInt64)), (.long ((own_num (bs.take i)) <<< ((8 : Int32) &&& 0x3f).toInt64))]))
      refine ownVia (fun _ k => XS.lor X60.here hx rfl (hb hby d4_38) rfl k) ?_
      show ownFin _ _ _ _ _ (T60.setTop (mkF m 39 #[.val (.ref a1), .val (.long (own_num (bs.take i))), .second, .val (.ref b1), .val (.int z), .val (.int iv), .val (.int (bs.getD i 0))] [(.long (((own_num (bs.take i)) <<< ((8 : Int32) &&& 0x3f).toInt64) ||| (((bs.getD i 0) &&& (255 : Int32)).toInt64)))]))
      refine ownVia (fun _ k => XS.lstoreN X60.here hx rfl (hb hby d4_39) rfl (l' := #[.val (.ref a1), .val (.long (((own_num (bs.take i)) <<< ((8 : Int32) &&& 0x3f).toInt64) ||| (((bs.getD i 0) &&& (255 : Int32)).toInt64))), .second, .val (.ref b1), .val (.int z), .val (.int iv), .val (.int (bs.getD i 0))]) rfl k) ?_
      show ownFin _ _ _ _ _ (T60.setTop (mkF m 40 #[.val (.ref a1), .val (.long (((own_num (bs.take i)) <<< ((8 : Int32) &&& 0x3f).toInt64) ||| (((bs.getD i 0) &&& (255 : Int32)).toInt64))), .second, .val (.ref b1), .val (.int z), .val (.int iv), .val (.int (bs.getD i 0))] []))
      refine ownVia (fun _ k => XS.iinc X60.here hx rfl (hb hby d4_40) rfl (l' := #[.val (.ref a1), .val (.long (((own_num (bs.take i)) <<< ((8 : Int32) &&& 0x3f).toInt64) ||| (((bs.getD i 0) &&& (255 : Int32)).toInt64))), .second, .val (.ref b1), .val (.int z), .val (.int (iv + (1 : Int32))), .val (.int (bs.getD i 0))]) rfl k) ?_
      show ownFin _ _ _ _ _ (T60.setTop (mkF m 43 #[.val (.ref a1), .val (.long (((own_num (bs.take i)) <<< ((8 : Int32) &&& 0x3f).toInt64) ||| (((bs.getD i 0) &&& (255 : Int32)).toInt64))), .second, .val (.ref b1), .val (.int z), .val (.int (iv + (1 : Int32))), .val (.int (bs.getD i 0))] []))
      refine ownVia (fun _ k => XS.goto X60.here hx rfl (pc0 := 43) (pc' := 14) rfl (hb hby d4_43) (by decide) (by decide) k) ?_
      show ownFin _ _ _ _ _ (T60.setTop (mkF m 14 #[.val (.ref a1), .val (.long (((own_num (bs.take i)) <<< ((8 : Int32) &&& 0x3f).toInt64) ||| (((bs.getD i 0) &&& (255 : Int32)).toInt64))), .second, .val (.ref b1), .val (.int z), .val (.int (iv + (1 : Int32))), .val (.int (bs.getD i 0))] []))
      have hacc : (((own_num (bs.take i)) <<< ((8 : Int32) &&& 0x3f).toInt64) ||| (((bs.getD i 0) &&& (255 : Int32)).toInt64)) = own_num (bs.take (i + 1)) := (own_num_succ (by omega)).symm
      rw [hacc]
      exact ih (i + 1) (iv + 1) _ (One.val rfl) (by have h1 := c_iadd iv 1; have h2 := rng32 (iv + 1); have h3 : (1 : Int32).toInt = 1 := (by decide); have h4 := rng32 z; omega) (by omega)
  exact loop bs.length 0 0 _ One.u (by decide) (by omega)
theorem own_ef61 (m : MethodId) (q1 : Int64) (p1 : Int32) (p2 : Int32) : entryFrame m #[(.long q1), (.int p1), (.int p2)] maxLocals = mkF m 0 #[.val (.long q1), .second, .val (.int p1), .val (.int p2), .unset, .unset, .unset, .unset, .unset, .unset, .unset] [] := by first | (simp [entryFrame, mkF, argsToLocals, Value.category, maxLocals]; done) | rfl
def Q_own_law (Z : State) (q1 : Int64) (p1 : Int32) (p2 : Int32) (h0 : Heap) (n0 : Nat)  : Option Value → Heap → List Loc → Prop := fun v h L => v = some (.int 1) ∧ Fr n0 L
theorem own_pd0 : parseMethodDescriptor "(JI)[B" = some ⟨[.long, .int], some (.array .byte)⟩ := by decide +kernel
theorem own_pd1 : parseMethodDescriptor "(I[B)V" = some ⟨[.int, (.array .byte)], none⟩ := by decide +kernel
theorem own_pd2 : parseMethodDescriptor "()J" = some ⟨[], some .long⟩ := by decide +kernel
set_option maxRecDepth 65536 in
set_option maxHeartbeats 40000000 in
theorem own_law (l : Launch) (Z : State) (a0 : Array Value) (hw : ∀ d ∈ tables_1, d.before a0 Z = true) (ws : List Jvm.Cond) (q1 : Int64) (p1 : Int32) (p2 : Int32) (h0 : Heap) (n0 : Nat)  (Z0 : n0 ≤ h0.size)  :
    ownMet l Z x code maxLocals ret ws room_1 #[(.long q1), (.int p1), (.int p2)] h0 (Q_own_law Z q1 p1 p2 h0 n0 ) := by
  refine ownBody (plainFor_of_name own_pn0) ?_
  intro p e s m below meth c T0 hx hby hml hret hlk hZ hown hnm X0 e0
  have N0 : Fr n0 [] := Fr.nil n0
  have hown : s.vm.findClass "com/example/cairn/cairn/ccnx/TlvNumberPinLaw" = some m.cls := hown
  refine ownVia (fun _ k => castTop (own_ef61 m q1 p1 p2) k) ?_
  show ownFin _ _ _ _ _ (T0.setTop (mkF m 0 #[.val (.long q1), .second, .val (.int p1), .val (.int p2), .unset, .unset, .unset, .unset, .unset, .unset, .unset] []))
  have hln := own_len p1
  have hty := own_ty p2
  refine ownVia (fun _ k => XS.iloadN X0.here hx rfl (hb hby at_0) rfl k) ?_
  show ownFin _ _ _ _ _ (T0.setTop (mkF m 1 #[.val (.long q1), .second, .val (.int p1), .val (.int p2), .unset, .unset, .unset, .unset, .unset, .unset, .unset] [(.int p1)]))
  refine ownVia (fun _ k => XS.bipush X0.here hx rfl (hb hby at_1) k) ?_
  show ownFin _ _ _ _ _ (T0.setTop (mkF m 3 #[.val (.long q1), .second, .val (.int p1), .val (.int p2), .unset, .unset, .unset, .unset, .unset, .unset, .unset] [(.int (7 : Int32)), (.int p1)]))
  refine ownVia (fun _ k => XS.iand X0.here hx rfl (hb hby at_3) rfl k) ?_
  show ownFin _ _ _ _ _ (T0.setTop (mkF m 4 #[.val (.long q1), .second, .val (.int p1), .val (.int p2), .unset, .unset, .unset, .unset, .unset, .unset, .unset] [(.int (p1 &&& (7 : Int32)))]))
  refine ownVia (fun _ k => XS.iconst X0.here hx rfl (hb hby at_4) k) ?_
  show ownFin _ _ _ _ _ (T0.setTop (mkF m 5 #[.val (.long q1), .second, .val (.int p1), .val (.int p2), .unset, .unset, .unset, .unset, .unset, .unset, .unset] [(.int (1 : Int32)), (.int (p1 &&& (7 : Int32)))]))
  refine ownVia (fun _ k => XS.iadd X0.here hx rfl (hb hby at_5) rfl k) ?_
  show ownFin _ _ _ _ _ (T0.setTop (mkF m 6 #[.val (.long q1), .second, .val (.int p1), .val (.int p2), .unset, .unset, .unset, .unset, .unset, .unset, .unset] [(.int ((p1 &&& (7 : Int32)) + (1 : Int32)))]))
  refine ownVia (fun _ k => XS.istore X0.here hx rfl (hb hby at_6) rfl (l' := #[.val (.long q1), .second, .val (.int p1), .val (.int p2), .val (.int ((p1 &&& (7 : Int32)) + (1 : Int32))), .unset, .unset, .unset, .unset, .unset, .unset]) rfl k) ?_
  show ownFin _ _ _ _ _ (T0.setTop (mkF m 8 #[.val (.long q1), .second, .val (.int p1), .val (.int p2), .val (.int ((p1 &&& (7 : Int32)) + (1 : Int32))), .unset, .unset, .unset, .unset, .unset, .unset] []))
  refine ownVia (fun _ k => XS.iloadN X0.here hx rfl (hb hby at_8) rfl k) ?_
  show ownFin _ _ _ _ _ (T0.setTop (mkF m 9 #[.val (.long q1), .second, .val (.int p1), .val (.int p2), .val (.int ((p1 &&& (7 : Int32)) + (1 : Int32))), .unset, .unset, .unset, .unset, .unset, .unset] [(.int p2)]))
  refine ownVia (fun _ k => X0.ldcInt hx hown (mvT hZ (hw _ (List.mem_of_getElem? (i := 0) rfl))) (g := (mkF m 9 #[.val (.long q1), .second, .val (.int p1), .val (.int p2), .val (.int ((p1 &&& (7 : Int32)) + (1 : Int32))), .unset, .unset, .unset, .unset, .unset, .unset] [(.int p2)])) rfl (hb hby at_9) _ k) ?_
  show ownFin _ _ _ _ _ (T0.setTop (mkF m 11 #[.val (.long q1), .second, .val (.int p1), .val (.int p2), .val (.int ((p1 &&& (7 : Int32)) + (1 : Int32))), .unset, .unset, .unset, .unset, .unset, .unset] [(.int (65535 : Int32)), (.int p2)]))
  refine ownVia (fun _ k => XS.iand X0.here hx rfl (hb hby at_11) rfl k) ?_
  show ownFin _ _ _ _ _ (T0.setTop (mkF m 12 #[.val (.long q1), .second, .val (.int p1), .val (.int p2), .val (.int ((p1 &&& (7 : Int32)) + (1 : Int32))), .unset, .unset, .unset, .unset, .unset, .unset] [(.int (p2 &&& (65535 : Int32)))]))
  refine ownVia (fun _ k => XS.istore X0.here hx rfl (hb hby at_12) rfl (l' := #[.val (.long q1), .second, .val (.int p1), .val (.int p2), .val (.int ((p1 &&& (7 : Int32)) + (1 : Int32))), .val (.int (p2 &&& (65535 : Int32))), .unset, .unset, .unset, .unset, .unset]) rfl k) ?_
  show ownFin _ _ _ _ _ (T0.setTop (mkF m 14 #[.val (.long q1), .second, .val (.int p1), .val (.int p2), .val (.int ((p1 &&& (7 : Int32)) + (1 : Int32))), .val (.int (p2 &&& (65535 : Int32))), .unset, .unset, .unset, .unset, .unset] []))
  generalize h_len : ((p1 &&& (7 : Int32)) + (1 : Int32)) = len
  show ownFin _ _ _ _ _ (T0.setTop (mkF m 14 #[.val (.long q1), .second, .val (.int p1), .val (.int p2), .val (.int len), .val (.int (p2 &&& (65535 : Int32))), .unset, .unset, .unset, .unset, .unset] []))
  rw [h_len] at hln
  generalize h_tv : (p2 &&& (65535 : Int32)) = tv
  show ownFin _ _ _ _ _ (T0.setTop (mkF m 14 #[.val (.long q1), .second, .val (.int p1), .val (.int p2), .val (.int len), .val (.int tv), .unset, .unset, .unset, .unset, .unset] []))
  rw [h_tv] at hty
  obtain ⟨M, hM⟩ : ∃ M : Nat, len.toInt = (M : Int) := ⟨len.toInt.toNat, by omega⟩
  have hM1 : 1 ≤ M := by omega
  have hM8 : M ≤ 8 := by omega
  obtain ⟨T62, h62, X62, e62, E62, A62, D62, -, st62⟩ := newO X0 hx hZ hown (hw _ (List.mem_of_getElem? (i := 1) rfl)) (hw _ (List.mem_of_getElem? (i := 2) rfl)) (hw _ (List.mem_of_getElem? (i := 3) rfl)) e0 (g := (mkF m 14 #[.val (.long q1), .second, .val (.int p1), .val (.int p2), .val (.int len), .val (.int tv), .unset, .unset, .unset, .unset, .unset] [])) rfl (hb hby at_14) (by decide) (by decide)
  obtain ⟨b1, g62⟩ : ∃ z, z = h0.size := ⟨_, rfl⟩
  rw [← g62] at A62 D62 st62
  have ge_b1 : n0 ≤ b1 := Nat.le_trans Z0 (Nat.le_of_eq g62.symm)
  have Z0 := own_sz Z0 E62
  have E_b1 := A62
  have F_b1_type : Fld Z h62 b1 "com/example/cairn/cairn/ccnx/Tlv" "type" "I" (.int (0 : Int32)) := D62 (Or.inr (hw _ (List.mem_of_getElem? (i := 17) rfl))) (ty := .int) (by decide)
  have F_b1_value : Fld Z h62 b1 "com/example/cairn/cairn/ccnx/Tlv" "value" "[B" .null := D62 (Or.inr (hw _ (List.mem_of_getElem? (i := 28) rfl))) (ty := (.array .byte)) (by decide)
  refine ownVia st62 ?_
  show ownFin _ _ _ _ _ (T62.setTop (mkF m 17 #[.val (.long q1), .second, .val (.int p1), .val (.int p2), .val (.int len), .val (.int tv), .unset, .unset, .unset, .unset, .unset] [(.ref b1)]))
  refine ownVia (fun _ k => XS.dup X62.here hx rfl (hb hby at_17) rfl rfl k) ?_
  show ownFin _ _ _ _ _ (T62.setTop (mkF m 18 #[.val (.long q1), .second, .val (.int p1), .val (.int p2), .val (.int len), .val (.int tv), .unset, .unset, .unset, .unset, .unset] [(.ref b1), (.ref b1)]))
  refine ownVia (fun _ k => XS.iload X62.here hx rfl (hb hby at_18) rfl k) ?_
  show ownFin _ _ _ _ _ (T62.setTop (mkF m 20 #[.val (.long q1), .second, .val (.int p1), .val (.int p2), .val (.int len), .val (.int tv), .unset, .unset, .unset, .unset, .unset] [(.int tv), (.ref b1), (.ref b1)]))
  refine ownVia (fun _ k => XS.lloadN X62.here hx rfl (hb hby at_20) rfl k) ?_
  show ownFin _ _ _ _ _ (T62.setTop (mkF m 21 #[.val (.long q1), .second, .val (.int p1), .val (.int p2), .val (.int len), .val (.int tv), .unset, .unset, .unset, .unset, .unset] [(.long q1), (.int tv), (.ref b1), (.ref b1)]))
  refine ownVia (fun _ k => XS.iload X62.here hx rfl (hb hby at_21) rfl k) ?_
  show ownFin _ _ _ _ _ (T62.setTop (mkF m 23 #[.val (.long q1), .second, .val (.int p1), .val (.int p2), .val (.int len), .val (.int tv), .unset, .unset, .unset, .unset, .unset] [(.int len), (.long q1), (.int tv), (.ref b1), (.ref b1)]))
  refine ownCallS X62 hx hZ hown (hw _ (List.mem_of_getElem? (i := 4) rfl)) (hw _ (List.mem_of_getElem? (i := 5) rfl)) (hw _ (List.mem_of_getElem? (i := 6) rfl)) (hw _ (List.mem_of_getElem? (i := 7) rfl)) (by decide) e62 (own_octets l Z a0 hw q1 len h62 n0 M Z0 hM hM1 hM8) (by rw [hml]; rfl) [(.long q1), (.int len)] [(.int tv), (.ref b1), (.ref b1)] (lenOf own_pd0 rfl) rfl rfl 3 rfl (hb hby at_23) (by decide) (by decide) (by decide) (by decide) ?_
  intro v63 T63 L63 X63 hq63
  obtain ⟨b2, k_b2, rfl, N63q, K63, sq63, E_b2, A_b2⟩ := hq63
  have ne_b1_b2 : b1 ≠ b2 := Nat.ne_of_lt (Nat.lt_of_lt_of_le E_b1.lt sq63)
  have ge_b2 : n0 ≤ b2 := Nat.le_trans Z0 sq63
  have E_b1 := E_b1.keep K63
  have F_b1_type := F_b1_type.keep K63 nin0
  have F_b1_value := F_b1_value.keep K63 nin0
  have Z0 := Nat.le_trans Z0 K63.1
  have N63 := Fr.app N0 N63q
  show ownFin _ _ _ _ _ (T63.setTop (mkF m 26 #[.val (.long q1), .second, .val (.int p1), .val (.int p2), .val (.int len), .val (.int tv), .unset, .unset, .unset, .unset, .unset] [(.ref b2), (.int tv), (.ref b1), (.ref b1)]))
  refine ownCallN X63 hx hZ hown rfl (hw _ (List.mem_of_getElem? (i := 9) rfl)) (hw _ (List.mem_of_getElem? (i := 10) rfl)) (hw _ (List.mem_of_getElem? (i := 3) rfl)) (hw _ (List.mem_of_getElem? (i := 11) rfl)) (by decide) (rfl : T63.heap = T63.heap) (own_init l Z a0 hw b1 tv b2 T63.heap n0 k_b2 len ((own_ob q1 M).map Value.int) M Z0 F_b1_type F_b1_value E_b1 ge_b1 A_b2 E_b2 ne_b1_b2 hty hM hM8) (by rw [hml]; rfl) b1 [(.int tv), (.ref b2)] [(.ref b1)] (lenOf own_pd1 rfl) rfl rfl 1 rfl (hb hby at_26) (by decide) (by decide) (by decide) (by decide) ?_
  intro v64 T64 L64 X64 hq64
  obtain ⟨rfl, N64q, K64, b3, sq64, F_b1_type, F_b1_value, A_b3⟩ := hq64
  have ne_b1_b3 : b1 ≠ b3 := Nat.ne_of_lt (Nat.lt_of_lt_of_le E_b1.lt sq64)
  have ne_b2_b3 : b2 ≠ b3 := Nat.ne_of_lt (Nat.lt_of_lt_of_le A_b2.lt sq64)
  have ge_b3 : n0 ≤ b3 := Nat.le_trans Z0 sq64
  have E_b1 := E_b1.keep K64
  have A_b2 := A_b2.keep K64 (ninS (Ne.symm ne_b1_b2) nin0)
  have E_b2 := E_b2.keep K64
  have Z0 := Nat.le_trans Z0 K64.1
  have N64 := Fr.app N63 N64q
  show ownFin _ _ _ _ _ (T64.setTop (mkF m 29 #[.val (.long q1), .second, .val (.int p1), .val (.int p2), .val (.int len), .val (.int tv), .unset, .unset, .unset, .unset, .unset] [(.ref b1)]))
  refine ownVia (fun _ k => XS.astore X64.here hx rfl (hb hby at_29) rfl rfl (l' := #[.val (.long q1), .second, .val (.int p1), .val (.int p2), .val (.int len), .val (.int tv), .val (.ref b1), .unset, .unset, .unset, .unset]) rfl k) ?_
  show ownFin _ _ _ _ _ (T64.setTop (mkF m 31 #[.val (.long q1), .second, .val (.int p1), .val (.int p2), .val (.int len), .val (.int tv), .val (.ref b1), .unset, .unset, .unset, .unset] []))
  refine ownVia (fun _ k => XS.iload X64.here hx rfl (hb hby at_31) rfl k) ?_
  show ownFin _ _ _ _ _ (T64.setTop (mkF m 33 #[.val (.long q1), .second, .val (.int p1), .val (.int p2), .val (.int len), .val (.int tv), .val (.ref b1), .unset, .unset, .unset, .unset] [(.int len)]))
  refine ownVia (fun _ k => XS.bipush X64.here hx rfl (hb hby at_33) k) ?_
  show ownFin _ _ _ _ _ (T64.setTop (mkF m 35 #[.val (.long q1), .second, .val (.int p1), .val (.int p2), .val (.int len), .val (.int tv), .val (.ref b1), .unset, .unset, .unset, .unset] [(.int (8 : Int32)), (.int len)]))
  by_cases hc65 : len = (8 : Int32)
  case pos =>
    have hc65I : len.toInt = 8 := (own_eqi rfl (by decide)).mp hc65
    refine ownVia (fun _ k => XS.icmpNo X64.here hx rfl (hb hby at_35) rfl (teq hc65).2 k) ?_
    show ownFin _ _ _ _ _ (T64.setTop (mkF m 38 #[.val (.long q1), .second, .val (.int p1), .val (.int p2), .val (.int len), .val (.int tv), .val (.ref b1), .unset, .unset, .unset, .unset] []))
    refine ownVia (fun _ k => X64.ldc2Long hx hown (mvT hZ (hw _ (List.mem_of_getElem? (i := 34) rfl))) (g := (mkF m 38 #[.val (.long q1), .second, .val (.int p1), .val (.int p2), .val (.int len), .val (.int tv), .val (.ref b1), .unset, .unset, .unset, .unset] [])) rfl (hb hby at_38) _ k) ?_
    show ownFin _ _ _ _ _ (T64.setTop (mkF m 41 #[.val (.long q1), .second, .val (.int p1), .val (.int p2), .val (.int len), .val (.int tv), .val (.ref b1), .unset, .unset, .unset, .unset] [(.long (-1 : Int64))]))
    refine ownVia (fun _ k => XS.goto X64.here hx rfl (pc0 := 41) (pc' := 53) rfl (hb hby at_41) (by decide) (by decide) k) ?_
    show ownFin _ _ _ _ _ (T64.setTop (mkF m 53 #[.val (.long q1), .second, .val (.int p1), .val (.int p2), .val (.int len), .val (.int tv), .val (.ref b1), .unset, .unset, .unset, .unset] [(.long (-1 : Int64))]))
    refine ownVia (fun _ k => XS.lstore X64.here hx rfl (hb hby at_53) rfl (l' := #[.val (.long q1), .second, .val (.int p1), .val (.int p2), .val (.int len), .val (.int tv), .val (.ref b1), .val (.long (-1 : Int64)), .second, .unset, .unset]) rfl k) ?_
    show ownFin _ _ _ _ _ (T64.setTop (mkF m 55 #[.val (.long q1), .second, .val (.int p1), .val (.int p2), .val (.int len), .val (.int tv), .val (.ref b1), .val (.long (-1 : Int64)), .second, .unset, .unset] []))
    refine ownVia (fun _ k => XS.lloadN X64.here hx rfl (hb hby at_55) rfl k) ?_
    show ownFin _ _ _ _ _ (T64.setTop (mkF m 56 #[.val (.long q1), .second, .val (.int p1), .val (.int p2), .val (.int len), .val (.int tv), .val (.ref b1), .val (.long (-1 : Int64)), .second, .unset, .unset] [(.long q1)]))
    refine ownVia (fun _ k => XS.lload X64.here hx rfl (hb hby at_56) rfl k) ?_
    show ownFin _ _ _ _ _ (T64.setTop (mkF m 58 #[.val (.long q1), .second, .val (.int p1), .val (.int p2), .val (.int len), .val (.int tv), .val (.ref b1), .val (.long (-1 : Int64)), .second, .unset, .unset] [(.long (-1 : Int64)), (.long q1)]))
    refine ownVia (fun _ k => XS.land X64.here hx rfl (hb hby at_58) rfl k) ?_
    show ownFin _ _ _ _ _ (T64.setTop (mkF m 59 #[.val (.long q1), .second, .val (.int p1), .val (.int p2), .val (.int len), .val (.int tv), .val (.ref b1), .val (.long (-1 : Int64)), .second, .unset, .unset] [(.long (q1 &&& (-1 : Int64)))]))
    refine ownVia (fun _ k => XS.lstore X64.here hx rfl (hb hby at_59) rfl (l' := #[.val (.long q1), .second, .val (.int p1), .val (.int p2), .val (.int len), .val (.int tv), .val (.ref b1), .val (.long (-1 : Int64)), .second, .val (.long (q1 &&& (-1 : Int64))), .second]) rfl k) ?_
    show ownFin _ _ _ _ _ (T64.setTop (mkF m 61 #[.val (.long q1), .second, .val (.int p1), .val (.int p2), .val (.int len), .val (.int tv), .val (.ref b1), .val (.long (-1 : Int64)), .second, .val (.long (q1 &&& (-1 : Int64))), .second] []))
    refine ownVia (fun _ k => XS.aload X64.here hx rfl (hb hby at_61) rfl rfl k) ?_
    show ownFin _ _ _ _ _ (T64.setTop (mkF m 63 #[.val (.long q1), .second, .val (.int p1), .val (.int p2), .val (.int len), .val (.int tv), .val (.ref b1), .val (.long (-1 : Int64)), .second, .val (.long (q1 &&& (-1 : Int64))), .second] [(.ref b1)]))
    refine ownCallV X64 hx hZ hown (hw _ (List.mem_of_getElem? (i := 29) rfl)) (hw _ (List.mem_of_getElem? (i := 30) rfl)) (hw _ (List.mem_of_getElem? (i := 32) rfl)) (hw _ (List.mem_of_getElem? (i := 32) rfl)) (hw _ (List.mem_of_getElem? (i := 31) rfl)) (hw _ (List.mem_of_getElem? (i := 3) rfl)) (hw _ (List.mem_of_getElem? (i := 33) rfl)) (by decide) (rfl : T64.heap = T64.heap) E_b1 (own_number l Z a0 hw b1 T64.heap n0 b3 k_b2 len (own_ob q1 M) Z0 F_b1_value A_b3 (by rw [own_oblen q1 hM1 hM8]; exact hM)) (by rw [hml]; rfl) [] [] (lenOf own_pd2 rfl) rfl rfl 0 rfl (hb hby at_63) (by decide) (by decide) (by decide) (by decide) ?_
    intro v66 T66 L66 X66 hq66
    obtain ⟨rfl, N66q, eq66⟩ := hq66
    have N66 := Fr.app N64 N66q
    have e66 : T66.heap = T64.heap := eq66
    show ownFin _ _ _ _ _ (T66.setTop (mkF m 66 #[.val (.long q1), .second, .val (.int p1), .val (.int p2), .val (.int len), .val (.int tv), .val (.ref b1), .val (.long (-1 : Int64)), .second, .val (.long (q1 &&& (-1 : Int64))), .second] [(.long (own_num (own_ob q1 M)))]))
    refine ownVia (fun _ k => XS.lload X66.here hx rfl (hb hby at_66) rfl k) ?_
    show ownFin _ _ _ _ _ (T66.setTop (mkF m 68 #[.val (.long q1), .second, .val (.int p1), .val (.int p2), .val (.int len), .val (.int tv), .val (.ref b1), .val (.long (-1 : Int64)), .second, .val (.long (q1 &&& (-1 : Int64))), .second] [(.long (q1 &&& (-1 : Int64))), (.long (own_num (own_ob q1 M)))]))
    refine ownVia (fun _ k => XS.lcmp X66.here hx rfl (hb hby at_68) rfl k) ?_
    show ownFin _ _ _ _ _ (T66.setTop (mkF m 69 #[.val (.long q1), .second, .val (.int p1), .val (.int p2), .val (.int len), .val (.int tv), .val (.ref b1), .val (.long (-1 : Int64)), .second, .val (.long (q1 &&& (-1 : Int64))), .second] [(.int (lcmpW (own_num (own_ob q1 M)) (q1 &&& (-1 : Int64))))]))
    refine ownVia (fun _ k => XS.ifNo X66.here hx rfl (hb hby at_69) rfl ((if0 _ _).trans (teq ((lw_eq _ _).mpr (own_final8 q1 hM hc65))).2) k) ?_
    show ownFin _ _ _ _ _ (T66.setTop (mkF m 72 #[.val (.long q1), .second, .val (.int p1), .val (.int p2), .val (.int len), .val (.int tv), .val (.ref b1), .val (.long (-1 : Int64)), .second, .val (.long (q1 &&& (-1 : Int64))), .second] []))
    refine ownVia (fun _ k => XS.iconst X66.here hx rfl (hb hby at_72) k) ?_
    show ownFin _ _ _ _ _ (T66.setTop (mkF m 73 #[.val (.long q1), .second, .val (.int p1), .val (.int p2), .val (.int len), .val (.int tv), .val (.ref b1), .val (.long (-1 : Int64)), .second, .val (.long (q1 &&& (-1 : Int64))), .second] [(.int (1 : Int32))]))
    refine ownVia (fun _ k => XS.goto X66.here hx rfl (pc0 := 73) (pc' := 77) rfl (hb hby at_73) (by decide) (by decide) k) ?_
    show ownFin _ _ _ _ _ (T66.setTop (mkF m 77 #[.val (.long q1), .second, .val (.int p1), .val (.int p2), .val (.int len), .val (.int tv), .val (.ref b1), .val (.long (-1 : Int64)), .second, .val (.long (q1 &&& (-1 : Int64))), .second] [(.int (1 : Int32))]))
    refine ownRetZ X66 hx hlk hret (hb hby at_77) (by decide) (by decide) (Or.inr rfl) ?_
    show (Q_own_law Z q1 p1 p2 h0 n0 ) (some (.int (1 : Int32))) T66.heap _
    rw [e66]
    exact ⟨rfl, N66⟩
  case neg =>
    have hc65I : ¬ len.toInt = 8 := fun q => hc65 ((own_eqi rfl (by decide)).mpr q)
    refine ownVia (fun _ k => XS.icmpYes X64.here hx rfl (pc0 := 35) (pc' := 44) rfl (hb hby at_35) rfl (feq hc65).2 (by decide) (by decide) k) ?_
    show ownFin _ _ _ _ _ (T64.setTop (mkF m 44 #[.val (.long q1), .second, .val (.int p1), .val (.int p2), .val (.int len), .val (.int tv), .val (.ref b1), .unset, .unset, .unset, .unset] []))
    refine ownVia (fun _ k => XS.lconst X64.here hx rfl (hb hby at_44) k) ?_
    show ownFin _ _ _ _ _ (T64.setTop (mkF m 45 #[.val (.long q1), .second, .val (.int p1), .val (.int p2), .val (.int len), .val (.int tv), .val (.ref b1), .unset, .unset, .unset, .unset] [(.long (1 : Int64))]))
    refine ownVia (fun _ k => XS.bipush X64.here hx rfl (hb hby at_45) k) ?_
    show ownFin _ _ _ _ _ (T64.setTop (mkF m 47 #[.val (.long q1), .second, .val (.int p1), .val (.int p2), .val (.int len), .val (.int tv), .val (.ref b1), .unset, .unset, .unset, .unset] [(.int (8 : Int32)), (.long (1 : Int64))]))
    refine ownVia (fun _ k => XS.iload X64.here hx rfl (hb hby at_47) rfl k) ?_
    show ownFin _ _ _ _ _ (T64.setTop (mkF m 49 #[.val (.long q1), .second, .val (.int p1), .val (.int p2), .val (.int len), .val (.int tv), .val (.ref b1), .unset, .unset, .unset, .unset] [(.int len), (.int (8 : Int32)), (.long (1 : Int64))]))
    refine ownVia (fun _ k => XS.imul X64.here hx rfl (hb hby at_49) rfl k) ?_
    show ownFin _ _ _ _ _ (T64.setTop (mkF m 50 #[.val (.long q1), .second, .val (.int p1), .val (.int p2), .val (.int len), .val (.int tv), .val (.ref b1), .unset, .unset, .unset, .unset] [(.int ((8 : Int32) * len)), (.long (1 : Int64))]))
    refine ownVia (fun _ k => XS.lshl X64.here hx rfl (hb hby at_50) rfl k) ?_
    show ownFin _ _ _ _ _ (T64.setTop (mkF m 51 #[.val (.long q1), .second, .val (.int p1), .val (.int p2), .val (.int len), .val (.int tv), .val (.ref b1), .unset, .unset, .unset, .unset] [(.long ((1 : Int64) <<< (((8 : Int32) * len) &&& 0x3f).toInt64))]))
    refine ownVia (fun _ k => XS.lconst X64.here hx rfl (hb hby at_51) k) ?_
    show ownFin _ _ _ _ _ (T64.setTop (mkF m 52 #[.val (.long q1), .second, .val (.int p1), .val (.int p2), .val (.int len), .val (.int tv), .val (.ref b1), .unset, .unset, .unset, .unset] [(.long (1 : Int64)), (.long ((1 : Int64) <<< (((8 : Int32) * len) &&& 0x3f).toInt64))]))
    refine ownVia (fun _ k => XS.lsub X64.here hx rfl (hb hby at_52) rfl k) ?_
    show ownFin _ _ _ _ _ (T64.setTop (mkF m 53 #[.val (.long q1), .second, .val (.int p1), .val (.int p2), .val (.int len), .val (.int tv), .val (.ref b1), .unset, .unset, .unset, .unset] [(.long (((1 : Int64) <<< (((8 : Int32) * len) &&& 0x3f).toInt64) - (1 : Int64)))]))
    refine ownVia (fun _ k => XS.lstore X64.here hx rfl (hb hby at_53) rfl (l' := #[.val (.long q1), .second, .val (.int p1), .val (.int p2), .val (.int len), .val (.int tv), .val (.ref b1), .val (.long (((1 : Int64) <<< (((8 : Int32) * len) &&& 0x3f).toInt64) - (1 : Int64))), .second, .unset, .unset]) rfl k) ?_
    show ownFin _ _ _ _ _ (T64.setTop (mkF m 55 #[.val (.long q1), .second, .val (.int p1), .val (.int p2), .val (.int len), .val (.int tv), .val (.ref b1), .val (.long (((1 : Int64) <<< (((8 : Int32) * len) &&& 0x3f).toInt64) - (1 : Int64))), .second, .unset, .unset] []))
    refine ownVia (fun _ k => XS.lloadN X64.here hx rfl (hb hby at_55) rfl k) ?_
    show ownFin _ _ _ _ _ (T64.setTop (mkF m 56 #[.val (.long q1), .second, .val (.int p1), .val (.int p2), .val (.int len), .val (.int tv), .val (.ref b1), .val (.long (((1 : Int64) <<< (((8 : Int32) * len) &&& 0x3f).toInt64) - (1 : Int64))), .second, .unset, .unset] [(.long q1)]))
    refine ownVia (fun _ k => XS.lload X64.here hx rfl (hb hby at_56) rfl k) ?_
    show ownFin _ _ _ _ _ (T64.setTop (mkF m 58 #[.val (.long q1), .second, .val (.int p1), .val (.int p2), .val (.int len), .val (.int tv), .val (.ref b1), .val (.long (((1 : Int64) <<< (((8 : Int32) * len) &&& 0x3f).toInt64) - (1 : Int64))), .second, .unset, .unset] [(.long (((1 : Int64) <<< (((8 : Int32) * len) &&& 0x3f).toInt64) - (1 : Int64))), (.long q1)]))
    refine ownVia (fun _ k => XS.land X64.here hx rfl (hb hby at_58) rfl k) ?_
    show ownFin _ _ _ _ _ (T64.setTop (mkF m 59 #[.val (.long q1), .second, .val (.int p1), .val (.int p2), .val (.int len), .val (.int tv), .val (.ref b1), .val (.long (((1 : Int64) <<< (((8 : Int32) * len) &&& 0x3f).toInt64) - (1 : Int64))), .second, .unset, .unset] [(.long (q1 &&& (((1 : Int64) <<< (((8 : Int32) * len) &&& 0x3f).toInt64) - (1 : Int64))))]))
    refine ownVia (fun _ k => XS.lstore X64.here hx rfl (hb hby at_59) rfl (l' := #[.val (.long q1), .second, .val (.int p1), .val (.int p2), .val (.int len), .val (.int tv), .val (.ref b1), .val (.long (((1 : Int64) <<< (((8 : Int32) * len) &&& 0x3f).toInt64) - (1 : Int64))), .second, .val (.long (q1 &&& (((1 : Int64) <<< (((8 : Int32) * len) &&& 0x3f).toInt64) - (1 : Int64)))), .second]) rfl k) ?_
    show ownFin _ _ _ _ _ (T64.setTop (mkF m 61 #[.val (.long q1), .second, .val (.int p1), .val (.int p2), .val (.int len), .val (.int tv), .val (.ref b1), .val (.long (((1 : Int64) <<< (((8 : Int32) * len) &&& 0x3f).toInt64) - (1 : Int64))), .second, .val (.long (q1 &&& (((1 : Int64) <<< (((8 : Int32) * len) &&& 0x3f).toInt64) - (1 : Int64)))), .second] []))
    refine ownVia (fun _ k => XS.aload X64.here hx rfl (hb hby at_61) rfl rfl k) ?_
    show ownFin _ _ _ _ _ (T64.setTop (mkF m 63 #[.val (.long q1), .second, .val (.int p1), .val (.int p2), .val (.int len), .val (.int tv), .val (.ref b1), .val (.long (((1 : Int64) <<< (((8 : Int32) * len) &&& 0x3f).toInt64) - (1 : Int64))), .second, .val (.long (q1 &&& (((1 : Int64) <<< (((8 : Int32) * len) &&& 0x3f).toInt64) - (1 : Int64)))), .second] [(.ref b1)]))
    refine ownCallV X64 hx hZ hown (hw _ (List.mem_of_getElem? (i := 29) rfl)) (hw _ (List.mem_of_getElem? (i := 30) rfl)) (hw _ (List.mem_of_getElem? (i := 32) rfl)) (hw _ (List.mem_of_getElem? (i := 32) rfl)) (hw _ (List.mem_of_getElem? (i := 31) rfl)) (hw _ (List.mem_of_getElem? (i := 3) rfl)) (hw _ (List.mem_of_getElem? (i := 33) rfl)) (by decide) (rfl : T64.heap = T64.heap) E_b1 (own_number l Z a0 hw b1 T64.heap n0 b3 k_b2 len (own_ob q1 M) Z0 F_b1_value A_b3 (by rw [own_oblen q1 hM1 hM8]; exact hM)) (by rw [hml]; rfl) [] [] (lenOf own_pd2 rfl) rfl rfl 0 rfl (hb hby at_63) (by decide) (by decide) (by decide) (by decide) ?_
    intro v67 T67 L67 X67 hq67
    obtain ⟨rfl, N67q, eq67⟩ := hq67
    have N67 := Fr.app N64 N67q
    have e67 : T67.heap = T64.heap := eq67
    show ownFin _ _ _ _ _ (T67.setTop (mkF m 66 #[.val (.long q1), .second, .val (.int p1), .val (.int p2), .val (.int len), .val (.int tv), .val (.ref b1), .val (.long (((1 : Int64) <<< (((8 : Int32) * len) &&& 0x3f).toInt64) - (1 : Int64))), .second, .val (.long (q1 &&& (((1 : Int64) <<< (((8 : Int32) * len) &&& 0x3f).toInt64) - (1 : Int64)))), .second] [(.long (own_num (own_ob q1 M)))]))
    refine ownVia (fun _ k => XS.lload X67.here hx rfl (hb hby at_66) rfl k) ?_
    show ownFin _ _ _ _ _ (T67.setTop (mkF m 68 #[.val (.long q1), .second, .val (.int p1), .val (.int p2), .val (.int len), .val (.int tv), .val (.ref b1), .val (.long (((1 : Int64) <<< (((8 : Int32) * len) &&& 0x3f).toInt64) - (1 : Int64))), .second, .val (.long (q1 &&& (((1 : Int64) <<< (((8 : Int32) * len) &&& 0x3f).toInt64) - (1 : Int64)))), .second] [(.long (q1 &&& (((1 : Int64) <<< (((8 : Int32) * len) &&& 0x3f).toInt64) - (1 : Int64)))), (.long (own_num (own_ob q1 M)))]))
    refine ownVia (fun _ k => XS.lcmp X67.here hx rfl (hb hby at_68) rfl k) ?_
    show ownFin _ _ _ _ _ (T67.setTop (mkF m 69 #[.val (.long q1), .second, .val (.int p1), .val (.int p2), .val (.int len), .val (.int tv), .val (.ref b1), .val (.long (((1 : Int64) <<< (((8 : Int32) * len) &&& 0x3f).toInt64) - (1 : Int64))), .second, .val (.long (q1 &&& (((1 : Int64) <<< (((8 : Int32) * len) &&& 0x3f).toInt64) - (1 : Int64)))), .second] [(.int (lcmpW (own_num (own_ob q1 M)) (q1 &&& (((1 : Int64) <<< (((8 : Int32) * len) &&& 0x3f).toInt64) - (1 : Int64)))))]))
    refine ownVia (fun _ k => XS.ifNo X67.here hx rfl (hb hby at_69) rfl ((if0 _ _).trans (teq ((lw_eq _ _).mpr (own_final q1 hM hM1 hM8 hc65))).2) k) ?_
    show ownFin _ _ _ _ _ (T67.setTop (mkF m 72 #[.val (.long q1), .second, .val (.int p1), .val (.int p2), .val (.int len), .val (.int tv), .val (.ref b1), .val (.long (((1 : Int64) <<< (((8 : Int32) * len) &&& 0x3f).toInt64) - (1 : Int64))), .second, .val (.long (q1 &&& (((1 : Int64) <<< (((8 : Int32) * len) &&& 0x3f).toInt64) - (1 : Int64)))), .second] []))
    refine ownVia (fun _ k => XS.iconst X67.here hx rfl (hb hby at_72) k) ?_
    show ownFin _ _ _ _ _ (T67.setTop (mkF m 73 #[.val (.long q1), .second, .val (.int p1), .val (.int p2), .val (.int len), .val (.int tv), .val (.ref b1), .val (.long (((1 : Int64) <<< (((8 : Int32) * len) &&& 0x3f).toInt64) - (1 : Int64))), .second, .val (.long (q1 &&& (((1 : Int64) <<< (((8 : Int32) * len) &&& 0x3f).toInt64) - (1 : Int64)))), .second] [(.int (1 : Int32))]))
    refine ownVia (fun _ k => XS.goto X67.here hx rfl (pc0 := 73) (pc' := 77) rfl (hb hby at_73) (by decide) (by decide) k) ?_
    show ownFin _ _ _ _ _ (T67.setTop (mkF m 77 #[.val (.long q1), .second, .val (.int p1), .val (.int p2), .val (.int len), .val (.int tv), .val (.ref b1), .val (.long (((1 : Int64) <<< (((8 : Int32) * len) &&& 0x3f).toInt64) - (1 : Int64))), .second, .val (.long (q1 &&& (((1 : Int64) <<< (((8 : Int32) * len) &&& 0x3f).toInt64) - (1 : Int64)))), .second] [(.int (1 : Int32))]))
    refine ownRetZ X67 hx hlk hret (hb hby at_77) (by decide) (by decide) (Or.inr rfl) ?_
    show (Q_own_law Z q1 p1 p2 h0 n0 ) (some (.int (1 : Int32))) T67.heap _
    rw [e67]
    exact ⟨rfl, N67⟩
set_option maxRecDepth 65536 in
set_option maxHeartbeats 40000000 in
theorem own_comes {Post : Tables → Env → Array Value → State → Outcome → State → Prop} (hpost : ∀ tb e args s v u, (limb_1_1.after args s (.returned v) u = true ∧ limb_1_2.after args s (.returned v) u = true ∧ True) → FrameEnd s (.returned v) u (Jvm.fieldLocs frame_1_writes args s ++ Jvm.arrayLocs frame_1_arrays args s ++ Jvm.staticLocs frame_1_statics s) 16 128 → Post tb e args s (.returned v) u) :
    ArmFor flags0 classFile x code maxLocals ret World_1 tables_1 room_1 Calls_1 rest_1 Pre_1 Post := by
  intro l hfl _ _ p e ha hc hk s m args below hf hA hF happ hP
  obtain ⟨hcalls, hrest, hpre⟩ := hP
  obtain ⟨-, -, -, hnamed, -, -, -, hat⟩ := (Spec.applies_iff hf).mp happ
  obtain ⟨hg, hn⟩ := and_e (Cond.before_iff.mp (show (Jvm.Cond.and given_1 narrow_1).before args s = true from hpre))
  obtain ⟨hcount, hg0⟩ := and_e hg
  obtain ⟨w0, w1, w2, rfl⟩ : ∃ w0 w1 w2 : Value, args = #[w0, w1, w2] := by
    have hs : args.size = 3 := by simpa [Cond.value, given_1] using hcount
    obtain ⟨L⟩ := args
    match L, hs with
    | [w0, w1, w2], _ => exact ⟨w0, w1, w2, rfl⟩
  have hw := fun d (hd : d ∈ tables_1) => atoms_spec (ws := Jvm.Cond.code x code maxLocals ret :: tables_1) hat d (List.mem_cons_of_mem _ hd)
  have hfit : Fit s := fun {y c} hc i hi => by
    obtain ⟨ha, rfl⟩ := Array.getElem?_eq_some_iff.mp hc
    have q := List.all_eq_true.mp ((Array.all_eq_true_iff_forall_mem.mp hF) _ (Array.getElem_mem ha)) i (List.mem_range.mpr hi)
    simpa [Array.getElem?_eq_getElem hi] using q
  obtain ⟨hq0, hg1⟩ := and_e hg0
  obtain ⟨i0, ei0⟩ := isL_v hq0
  obtain rfl : w0 = (.long i0) := Option.some.inj ei0
  obtain ⟨hq1, hg2⟩ := and_e hg1
  obtain ⟨i1, ei1⟩ := is_v hq1
  obtain rfl : w1 = (.int i1) := Option.some.inj ei1
  obtain ⟨i2, ei2⟩ := is_v hg2
  obtain rfl : w2 = (.int i2) := Option.some.inj ei2
  obtain ⟨n, o, h1, h2, h3, _, L, rfl, ⟨rfl, N⟩, hq⟩ := own_law l s _ hw tables_1 i0 i1 i2 s.heap s.heap.size  (Nat.le_refl _)  p e ha hc hk s m _ below hf ((Spec.applies_iff_loose hf).mp happ).1 ⟨rfl, State.Warmed39.refl s, rfl⟩ trivial
  refine ⟨n, _, h1, h2, h3, hpost _ _ _ _ _ _ ⟨Cond.after_iff.mpr rfl, Cond.after_iff.mpr (eq_i res_at (Term.int_eval (1)) rfl), trivial⟩ ⟨hq.1, hq.2.1, (hq.2.2.sift fun y hy => Or.inr (N y hy)).mono (by decide) (by decide)⟩⟩
theorem main_1_1 : Claimed_1_1 := own_comes fun _ _ _ _ _ _ h hF => ⟨h.1, hF⟩
theorem main_1_2 : Claimed_1_2 := own_comes fun _ _ _ _ _ _ h hF => ⟨h.2.1, hF⟩
end Jvm.Pilot.@@N@@
namespace Jvm.Pilot.@@N@@
open Jvm Jvm.ClassFile Sem Op Lib Jvm.Free Jvm.Stand Jvm.Pilot.@@N@@.Jvm.D
/-! MADE BY PROGRAM (witnessworld.py) out of the Statement's table words and the real class files: 9 classes; the members and pool entries that the words name. The judged class is class 1, her method 2. -/
namespace start1
open Jvm.ClassFile
def u (s : String) : CpInfo := .utf8 (stringToUtf16 s)
/-- a pool by its gaps: so many unusable entries, then the entry; so many at the end -/
def gap : Nat → List CpInfo → List CpInfo
  | 0, r => r
  | n + 1, r => .unusable :: gap n r
def poolList (es : List (Nat × CpInfo)) (last : Nat) : List CpInfo := es.foldr (fun e r => gap e.1 (e.2 :: r)) (gap last [])
def pool (es : List (Nat × CpInfo)) (last : Nat) : Array CpInfo := ⟨poolList es last⟩
def fileOf (pool : Array CpInfo) (this : Nat) (attrs : Array Attribute := #[]) (ms : Array MethodInfo := #[]) (fl : Nat := 33) (sup : Nat := 0) (ifs : Array Nat := #[]) (fds : Array FieldInfo := #[]) : ClassFile where
  minorVersion := 0
  majorVersion := 65
  constantPool := pool
  accessFlags := fl
  thisClass := this
  superClass := sup
  interfaces := ifs
  fields := fds
  methods := ms
  attributes := attrs
def plain (name : String) (sup : Option ClassId) : Class where
  name := name
  kind := .ordinary
  loader := none
  accessFlags := 33
  super := sup
  interfaces := #[]
  cf := none
  fields := #[]
  methods := #[]
  instanceTypes := #[]
  staticTypes := #[]
  resolved := #[]
  callSites := []
  init := .initialized
  statics := none
  mirror := none

def pool0 : Array CpInfo := pool [(5, u "<init>"), (0, u "()V"), (1, .class_ 10), (1, u "java/lang/Object"), (85, u "clone"), (0, u "()Ljava/lang/Object;")] 26

def k0c0 : Code := { maxStack := 0, maxLocals := 1, code := object_method_1_code, exceptionTable := #[], attributes := #[] }
def k0m0 : Method := { name := "<init>", desc := "()V", sig := { parameters := [], returnType := none }, accessFlags := 1, code := some k0c0 }
def k0m1 : Method := { name := "clone", desc := "()Ljava/lang/Object;", sig := { parameters := [], returnType := some (.object "java/lang/Object") }, accessFlags := 260, code := none }
/-- java/lang/Object -/
def k0 : Class := { plain "java/lang/Object" none with
  accessFlags := 33
  interfaces := #[]
  cf := some (fileOf pool0 8 #[] #[{ accessFlags := 1, nameIndex := 5, descriptorIndex := 6, attributes := #[] }, { accessFlags := 260, nameIndex := 96, descriptorIndex := 97, attributes := #[] }] 33 0 #[] #[])
  fields := #[]
  methods := #[k0m0, k0m1]
  instanceTypes := #[]
  staticTypes := #[]
  resolved := Array.replicate 124 none
  statics := none }

def pool1 : Array CpInfo := pool [(2, .class_ 4), (1, u "java/lang/Object"), (0, u "<init>"), (0, u "()V"), (0, .integer 65535), (0, .class_ 9), (0, u "com/example/cairn/cairn/ccnx/Tlv"), (0, .methodref 11 12), (0, .class_ 13), (0, .nameAndType 14 15), (0, u "com/example/cairn/cairn/ccnx/TlvNumberPinLaw"), (0, u "octets"), (0, u "(JI)[B"), (0, .methodref 8 17), (0, .nameAndType 5 18), (0, u "(I[B)V"), (0, .long 18446744073709551615), (1, .methodref 8 22), (0, .nameAndType 23 24), (0, u "number"), (0, u "()J"), (3, u "law"), (0, u "(JII)Z")] 2

def k1m0 : Method := { name := "<init>", desc := "()V", sig := { parameters := [], returnType := none }, accessFlags := 2, code := none }
def k1c1 : Code := { maxStack := 4, maxLocals := 11, code := method_2_code, exceptionTable := #[], attributes := #[] }
def k1m1 : Method := { name := "octets", desc := "(JI)[B", sig := { parameters := [.long, .int], returnType := some (.array .byte) }, accessFlags := 10, code := some k1c1 }
def k1c2 : Code := { maxStack := 6, maxLocals := 11, code := code, exceptionTable := #[], attributes := #[] }
def k1m2 : Method := { name := "law", desc := "(JII)Z", sig := { parameters := [.long, .int, .int], returnType := some .boolean }, accessFlags := 9, code := some k1c2 }
/-- com/example/cairn/cairn/ccnx/TlvNumberPinLaw -/
def k1 : Class := { plain "com/example/cairn/cairn/ccnx/TlvNumberPinLaw" (some 0) with
  accessFlags := 49
  interfaces := #[]
  cf := some (fileOf pool1 11 #[] #[{ accessFlags := 2, nameIndex := 5, descriptorIndex := 6, attributes := #[] }, { accessFlags := 10, nameIndex := 14, descriptorIndex := 15, attributes := #[] }, { accessFlags := 9, nameIndex := 28, descriptorIndex := 29, attributes := #[] }] 49 2 #[] #[])
  fields := #[]
  methods := #[k1m0, k1m1, k1m2]
  instanceTypes := #[]
  staticTypes := #[]
  resolved := Array.replicate 32 none
  statics := none }

def pool2 : Array CpInfo := pool [(1, .methodref 2 3), (0, .class_ 4), (0, .nameAndType 5 6), (0, u "java/lang/Object"), (0, u "<init>"), (0, u "()V"), (0, .class_ 8), (0, u "com/example/cairn/cairn/ccnx/Tlv"), (0, .integer 65535), (10, .fieldref 7 21), (0, .nameAndType 22 23), (0, u "type"), (0, u "I"), (0, .methodref 25 26), (0, .class_ 27), (0, .nameAndType 28 29), (0, u "[B"), (0, u "clone"), (0, u "()Ljava/lang/Object;"), (0, .fieldref 7 31), (0, .nameAndType 32 27), (0, u "value"), (6, u "(I[B)V"), (94, u "HEADER_OCTETS"), (2, u "MAX_LENGTH"), (0, u "MAX_TYPE"), (0, u "T_PAD"), (1, u "T_SHA256"), (8, u "number"), (0, u "()J")] 33

def k2c0 : Code := { maxStack := 3, maxLocals := 3, code := prog_8_method_1_code, exceptionTable := #[], attributes := #[] }
def k2m0 : Method := { name := "<init>", desc := "(I[B)V", sig := { parameters := [.int, (.array .byte)], returnType := none }, accessFlags := 1, code := some k2c0 }
def k2c1 : Code := { maxStack := 4, maxLocals := 7, code := prog_8_method_5_code, exceptionTable := #[], attributes := #[] }
def k2m1 : Method := { name := "number", desc := "()J", sig := { parameters := [], returnType := some .long }, accessFlags := 0, code := some k2c1 }
/-- com/example/cairn/cairn/ccnx/Tlv -/
def k2 : Class := { plain "com/example/cairn/cairn/ccnx/Tlv" (some 0) with
  accessFlags := 49
  interfaces := #[]
  cf := some (fileOf pool2 7 #[] #[{ accessFlags := 1, nameIndex := 5, descriptorIndex := 39, attributes := #[] }, { accessFlags := 0, nameIndex := 150, descriptorIndex := 151, attributes := #[] }] 49 2 #[] #[{ accessFlags := 24, nameIndex := 134, descriptorIndex := 23, attributes := #[] }, { accessFlags := 24, nameIndex := 137, descriptorIndex := 23, attributes := #[] }, { accessFlags := 26, nameIndex := 138, descriptorIndex := 23, attributes := #[] }, { accessFlags := 24, nameIndex := 139, descriptorIndex := 23, attributes := #[] }, { accessFlags := 24, nameIndex := 141, descriptorIndex := 23, attributes := #[] }, { accessFlags := 18, nameIndex := 22, descriptorIndex := 23, attributes := #[] }, { accessFlags := 18, nameIndex := 32, descriptorIndex := 27, attributes := #[] }])
  fields := #[{ name := "HEADER_OCTETS", type := .int, accessFlags := 24, slot := 0, constantValue := 0 }, { name := "MAX_LENGTH", type := .int, accessFlags := 24, slot := 1, constantValue := 0 }, { name := "MAX_TYPE", type := .int, accessFlags := 26, slot := 2, constantValue := 0 }, { name := "T_PAD", type := .int, accessFlags := 24, slot := 3, constantValue := 0 }, { name := "T_SHA256", type := .int, accessFlags := 24, slot := 4, constantValue := 0 }, { name := "type", type := .int, accessFlags := 18, slot := 0, constantValue := 0 }, { name := "value", type := (.array .byte), accessFlags := 18, slot := 1, constantValue := 0 }]
  methods := #[k2m0, k2m1]
  instanceTypes := #[.int, (.array .byte)]
  staticTypes := #[.int, .int, .int, .int, .int]
  resolved := Array.replicate 185 none
  statics := none }

def pool3 : Array CpInfo := pool [(1, .class_ 2), (0, u "java/lang/Cloneable"), (0, .class_ 4), (0, u "java/lang/Object")] 2

/-- java/lang/Cloneable -/
def k3 : Class := { plain "java/lang/Cloneable" (some 0) with
  accessFlags := 1537
  interfaces := #[]
  cf := some (fileOf pool3 1 #[] #[] 1537 3 #[] #[])
  fields := #[]
  methods := #[]
  instanceTypes := #[]
  staticTypes := #[]
  resolved := Array.replicate 7 none
  statics := none }

def pool4 : Array CpInfo := pool [(1, u "java/io/Serializable"), (0, .class_ 1), (0, u "java/lang/Object"), (0, .class_ 3)] 3

/-- java/io/Serializable -/
def k4 : Class := { plain "java/io/Serializable" (some 0) with
  accessFlags := 1537
  interfaces := #[]
  cf := some (fileOf pool4 2 #[] #[] 1537 4 #[] #[])
  fields := #[]
  methods := #[]
  instanceTypes := #[]
  staticTypes := #[]
  resolved := Array.replicate 8 none
  statics := none }

/-- the primitive byte -/
def k5 : Class := { plain "byte" none with kind := .primitive 'B', accessFlags := 0x411 }
/-- [B -/
def k6 : Class := { plain "[B" (some 0) with kind := .array 5 .byte, interfaces := #[3, 4], accessFlags := 1041 }

/-- the primitive int -/
def k7 : Class := { plain "int" none with kind := .primitive 'I', accessFlags := 0x411 }
/-- [I -/
def k8 : Class := { plain "[I" (some 0) with kind := .array 7 .int, interfaces := #[3, 4], accessFlags := 1041 }

def heap : Heap := #[]
def classes : Array Class := #[k0, k1, k2, k3, k4, k5, k6, k7, k8]
def interned : List (Array UInt16 × Addr) := []
def slotsUsed : Nat := 0
def theMethod : MethodId := ⟨1, 2⟩
def args0 : Array Value := #[.long 5, .int 3, .int 4]
def aboutOver (below : List Frame) : State where
  vm := { classes := classes, interned := interned.toArray }
  heap := heap
  slotsUsed := slotsUsed
  threads := #[{ frames := .invoking theMethod args0 :: below }]
def below0 : List Frame := [.native { method := ⟨0, 0⟩, args := #[] }]
def about1 : State := aboutOver below0
def p0 : Program := .bare "" "" ""
def e0 : Env := launch0.env 0 0 0
theorem w_frames : about1.frames = Frame.invoking theMethod args0 :: below0 := rfl
set_option maxRecDepth 65536 in
theorem w_args : argsFit about1.vm theMethod args0 = true := by decide +kernel
set_option maxRecDepth 65536 in
theorem w_heap : heapFits about1 = true := by decide +kernel
set_option maxRecDepth 65536 in
theorem w_runnable : about1.curStatus? = some .runnable := by decide +kernel
set_option maxRecDepth 65536 in
theorem w_alone : about1.alone = true := by decide +kernel
set_option maxRecDepth 65536 in
theorem w_named : about1.methodNamed? x = some theMethod := by decide +kernel
set_option maxRecDepth 65536 in
theorem w_hears : about1.hears theMethod below0 = true := by decide +kernel
set_option maxRecDepth 65536 in
theorem w_ripe : about1.ripe theMethod args0 below0 = true := by decide +kernel
theorem w_running : about1.status = .running := rfl
set_option maxRecDepth 65536 in
theorem w_room : about1.hasRoom e0.platform room_1 = true :=
  launch0.hasRoom_least _ room_1 (by decide +kernel) (by decide +kernel) (by decide +kernel) (by decide +kernel) (by decide +kernel) (by decide +kernel)
theorem allAtoms_all (ts : List Jvm.Cond) (a : Array Jvm.Value) (st : Jvm.State) : (allAtoms ts).before a st = ts.all (fun c => c.before a st) := by
  induction ts with
  | nil => rfl
  | cons c t ih =>
    show (Jvm.Cond.and c (allAtoms t)).before a st = _
    rw [Jvm.Cond.before_and, ih, List.all_cons]
def words1 : List Jvm.Cond := Jvm.Cond.code x code maxLocals ret :: tables_1
/-- a 'code' word, met by the world's own term for the bytes: nothing is compared byte by byte -/
theorem code_word {y : MethodName} {bytes : ByteArray} {mx : Nat} {rt : Option FieldType} {a : Array Value} {s : State} {m : MethodId} {meth : Method} {c : Code} (h1 : s.methodNamed? y = some m) (h2 : s.vm.method? m = some meth) (h3 : meth.code = some c) (h4 : c.code = bytes)
    (h5 : (c.maxLocals == mx && c.exceptionTable.isEmpty && decide (c.maxStack ≤ mostOperands) && decide (meth.sig.returnType = rt) && !meth.locks && decide (parseMethodDescriptor y.desc = some meth.sig)) = true) : (Jvm.Cond.code y bytes mx rt).before a s = true := by
  simp only [Bool.and_eq_true, beq_iff_eq, Bool.not_eq_true', decide_eq_true_eq] at h5
  obtain ⟨⟨⟨⟨⟨g1, g2⟩, g3⟩, g4⟩, g5⟩, g6⟩ := h5
  simp [Cond.before, Cond.holds, Cond.value, h1, h2, h3, h4, g1, g2, g3, g4, g5, g6]
def isCode : Jvm.Cond → Bool
  | .code _ _ _ _ => true
  | _ => false
theorem all_split {L : List Jvm.Cond} {P : Jvm.Cond → Bool} (h1 : L.all (fun c => isCode c || P c) = true) (h2 : ∀ c ∈ L.filter isCode, P c = true) : L.all P = true := by
  refine List.all_eq_true.mpr fun c hc => ?_
  have h := List.all_eq_true.mp h1 c hc
  rcases Bool.eq_false_or_eq_true (isCode c) with hi | hi
  · exact h2 c (List.mem_filter.mpr ⟨hc, hi⟩)
  · simpa [hi] using h
set_option maxRecDepth 65536 in
theorem w_c0 : (Jvm.Cond.code x code maxLocals ret).before args0 about1 = true := code_word (m := ⟨1, 2⟩) (meth := k1m2) (c := k1c2) (by decide +kernel) rfl rfl rfl (by decide +kernel)
set_option maxRecDepth 65536 in
theorem w_c1 : (Jvm.Cond.code ({ cls := "com/example/cairn/cairn/ccnx/TlvNumberPinLaw", name := "octets", desc := "(JI)[B" } : Jvm.MethodName) method_2_code (11 : Nat) (Option.some (Jvm.ClassFile.FieldType.array Jvm.ClassFile.FieldType.byte))).before args0 about1 = true := code_word (m := ⟨1, 1⟩) (meth := k1m1) (c := k1c1) (by decide +kernel) rfl rfl rfl (by decide +kernel)
set_option maxRecDepth 65536 in
theorem w_c2 : (Jvm.Cond.code ({ cls := "com/example/cairn/cairn/ccnx/Tlv", name := "<init>", desc := "(I[B)V" } : Jvm.MethodName) prog_8_method_1_code (3 : Nat) (Option.none : Option Jvm.ClassFile.FieldType)).before args0 about1 = true := code_word (m := ⟨2, 0⟩) (meth := k2m0) (c := k2c0) (by decide +kernel) rfl rfl rfl (by decide +kernel)
set_option maxRecDepth 65536 in
theorem w_c3 : (Jvm.Cond.code ({ cls := "java/lang/Object", name := "<init>", desc := "()V" } : Jvm.MethodName) object_method_1_code (1 : Nat) (Option.none : Option Jvm.ClassFile.FieldType)).before args0 about1 = true := code_word (m := ⟨0, 0⟩) (meth := k0m0) (c := k0c0) (by decide +kernel) rfl rfl rfl (by decide +kernel)
set_option maxRecDepth 65536 in
theorem w_c4 : (Jvm.Cond.code ({ cls := "com/example/cairn/cairn/ccnx/Tlv", name := "number", desc := "()J" } : Jvm.MethodName) prog_8_method_5_code (7 : Nat) (Option.some Jvm.ClassFile.FieldType.long)).before args0 about1 = true := code_word (m := ⟨2, 1⟩) (meth := k2m1) (c := k2c1) (by decide +kernel) rfl rfl rfl (by decide +kernel)
def codes1 : List Jvm.Cond := [Jvm.Cond.code x code maxLocals ret, Jvm.Cond.code ({ cls := "com/example/cairn/cairn/ccnx/TlvNumberPinLaw", name := "octets", desc := "(JI)[B" } : Jvm.MethodName) method_2_code (11 : Nat) (Option.some (Jvm.ClassFile.FieldType.array Jvm.ClassFile.FieldType.byte)), Jvm.Cond.code ({ cls := "com/example/cairn/cairn/ccnx/Tlv", name := "<init>", desc := "(I[B)V" } : Jvm.MethodName) prog_8_method_1_code (3 : Nat) (Option.none : Option Jvm.ClassFile.FieldType), Jvm.Cond.code ({ cls := "java/lang/Object", name := "<init>", desc := "()V" } : Jvm.MethodName) object_method_1_code (1 : Nat) (Option.none : Option Jvm.ClassFile.FieldType), Jvm.Cond.code ({ cls := "com/example/cairn/cairn/ccnx/Tlv", name := "number", desc := "()J" } : Jvm.MethodName) prog_8_method_5_code (7 : Nat) (Option.some Jvm.ClassFile.FieldType.long)]
set_option maxRecDepth 65536 in
theorem codes_eq : words1.filter isCode = codes1 := rfl
theorem w_codes : ∀ c ∈ words1.filter isCode, c.before args0 about1 = true := by
  rw [codes_eq]
  intro c hc
  simp only [codes1, List.mem_cons, List.not_mem_nil, or_false] at hc
  rcases hc with rfl | rfl | rfl | rfl | rfl
  · exact w_c0
  · exact w_c1
  · exact w_c2
  · exact w_c3
  · exact w_c4
set_option maxRecDepth 65536 in
theorem w_t1 : (words1.take 24).all (fun c => isCode c || c.before args0 about1) = true := by decide +kernel
set_option maxRecDepth 65536 in
theorem w_t2 : (words1.drop 24).all (fun c => isCode c || c.before args0 about1) = true := by decide +kernel
theorem w_tables : (allAtoms (Jvm.Cond.code x code maxLocals ret :: tables_1)).before args0 about1 = true := by
  rw [allAtoms_all]
  show words1.all (fun c => c.before args0 about1) = true
  refine all_split ?_ w_codes
  rw [← List.take_append_drop 24 words1, List.all_append, w_t1, w_t2]
  rfl
set_option maxRecDepth 65536 in
theorem w_case : (Jvm.Cond.and given_1 narrow_1).before args0 about1 = true := by decide +kernel
theorem w_applies : (headSpec (Jvm.Cond.code x code maxLocals ret :: tables_1) room_1).applies x e0.platform about1 = true :=
  (Spec.applies_iff w_frames).mpr ⟨w_running, w_runnable, w_alone, w_named, w_hears, w_ripe, w_room, w_tables⟩
theorem atStart : AtStart classFile x code maxLocals ret World_1 tables_1 room_1 Calls_1 rest_1 Pre_1 launch0 p0 e0 about1 theMethod args0 below0 :=
  ⟨lists_1, trivial, launch0.admits_env _ _ _, launch0.least_env, fairChoices_fair.cas, fairChoices_fair.clock, w_frames, w_args, w_heap, w_applies, trivial, trivial, w_case⟩
end start1
theorem witness_1 : WitnessClaimed_1 := ⟨start1.p0, start1.e0, start1.about1, start1.theMethod, start1.args0, start1.below0, start1.atStart⟩
end Jvm.Pilot.@@N@@
