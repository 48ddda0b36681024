import JvmDerived
import JvmDerived.Pilot.@@N@@Statement
import JvmDerived.Pilot.@@N@@Code
set_option linter.unusedVariables false
set_option linter.unusedSimpArgs false
namespace Jvm.Pilot.@@N@@
open Jvm Jvm.ClassFile Sem Op Lib Jvm.Free Jvm.Stand Jvm.LawKit Jvm.RoadKit Bundle Jvm.Pilot.@@N@@.Jvm.D
section Own
variable {p : Program} {l : Launch} {e : Env} {R : Room} {s : State} {m : MethodId} {args : Array Value} {below : List Frame} {meth : Method} {c : Code} {T : State} {locs : List Loc} {cells slots : Nat} {Z : State} {a0 : Array Value} {h : Heap} {Q : Option Value → Heap → List Loc → Prop} {C S : Nat} {u u' : State} {F : Outcome → State → List Loc → Prop}
/-- from u the invocation comes to its end, and Q holds of what it returns, of the heap and of the places written -/
def ownFin (p : Program) (e : Env) (below : List Frame) (F : Outcome → State → List Loc → Prop) (Q : Option Value → Heap → List Loc → Prop) (u : State) : Prop :=
  ∃ t o, Steps p.tables e below u t ∧ t.status = .running ∧ Ended t below o ∧ ∃ v L, o = .returned v ∧ Q v t.heap L ∧ F o t L
/-- how it ends: at most C new cells of S slots, the tables warmer, nothing old written but at the places L -/
def ownFE (s : State) (C S : Nat) : Outcome → State → List Loc → Prop := fun o t L => FrameEnd s o t L C S
theorem ownVia (f : ∀ t, Steps p.tables e below u' t → Steps p.tables e below u t) (k : ownFin p e below F Q u') : ownFin p e below F Q u := by
  obtain ⟨t, o, h1, r⟩ := k
  exact ⟨t, o, f t h1, r⟩
theorem ownRet (X : Stand p l e R s m args below meth c T locs cells slots) (hlk : meth.locks = false) {v : Option Value} (hv : meth.sig.returnType = none → v = none)
    (f : ∀ fs, (∀ (f : JFrame) (acts : List Action), f.method = m → f.locked = none → f.entered = [] → (doReturn e (T.setTop f) acts v).1 = T.setFrames fs) → Steps p.tables e below u (T.setFrames fs))
    (hC : cells ≤ C) (hS : slots ≤ S) (hQ : Q v T.heap locs) : ownFin p e below (ownFE s C S) Q u := by
  obtain ⟨fs, hr, hrun, hended, hW, hsame⟩ := X.leave (v := v) hv hlk
  exact ⟨_, _, f fs hr, hrun, hended, v, _, rfl, hQ, ⟨_, rfl⟩, hW, hsame.mono hC hS⟩
theorem ownRetI (X : Stand p l e R s m args below meth c T locs cells slots) (hx : p.tables.exec = Jvm.exec) (hlk : meth.locks = false) (hret : meth.sig.returnType = some .int) {pc : Nat} {Ls : Array Slot} {z : Int32} {rest : List Value} (hd : decode c.code pc = .ok (.ireturn, 1)) (hC : cells ≤ C) (hS : slots ≤ S) (hQ : Q (some (.int z)) T.heap locs) : ownFin p e below (ownFE s C S) Q (T.setTop (mkF m pc Ls (.int z :: rest))) :=
  ownRet X hlk (v := some (.int z)) (fun q => by rw [hret] at q; cases q) (fun fs hr => retOut X hx hret rfl (Or.inl ⟨rfl, Or.inl rfl, z, rfl⟩) hd hr) hC hS hQ
theorem ownRetZ (X : Stand p l e R s m args below meth c T locs cells slots) (hx : p.tables.exec = Jvm.exec) (hlk : meth.locks = false) (hret : meth.sig.returnType = some .boolean) {pc : Nat} {Ls : Array Slot} {z : Int32} {rest : List Value} (hd : decode c.code pc = .ok (.ireturn, 1)) (hC : cells ≤ C) (hS : slots ≤ S) (hz : z = 0 ∨ z = 1) (hQ : Q (some (.int z)) T.heap locs) : ownFin p e below (ownFE s C S) Q (T.setTop (mkF m pc Ls (.int z :: rest))) :=
  ownRet X hlk (v := some (.int z)) (fun q => by rw [hret] at q; cases q) (fun fs hr => retOut X hx hret (by rcases hz with rfl | rfl <;> rfl) (Or.inl ⟨rfl, Or.inr (Or.inl rfl), z, rfl⟩) hd hr) hC hS hQ
theorem ownRetJ (X : Stand p l e R s m args below meth c T locs cells slots) (hx : p.tables.exec = Jvm.exec) (hlk : meth.locks = false) (hret : meth.sig.returnType = some .long) {pc : Nat} {Ls : Array Slot} {z : Int64} {rest : List Value} (hd : decode c.code pc = .ok (.lreturn, 1)) (hC : cells ≤ C) (hS : slots ≤ S) (hQ : Q (some (.long z)) T.heap locs) : ownFin p e below (ownFE s C S) Q (T.setTop (mkF m pc Ls (.long z :: rest))) :=
  ownRet X hlk (v := some (.long z)) (fun q => by rw [hret] at q; cases q) (fun fs hr => retOut X hx hret rfl (Or.inr (Or.inl ⟨rfl, rfl, z, rfl⟩)) hd hr) hC hS hQ
theorem ownRetA (X : Stand p l e R s m args below meth c T locs cells slots) (hx : p.tables.exec = Jvm.exec) (hlk : meth.locks = false) {ty : FieldType} (hret : meth.sig.returnType = some ty) (hty : ty.isReference = true) {pc : Nat} {Ls : Array Slot} {a : Addr} {rest : List Value} (hd : decode c.code pc = .ok (.areturn, 1)) (hC : cells ≤ C) (hS : slots ≤ S) (hQ : Q (some (.ref a)) T.heap locs) : ownFin p e below (ownFE s C S) Q (T.setTop (mkF m pc Ls (.ref a :: rest))) :=
  ownRet X hlk (v := some (.ref a)) (fun q => by rw [hret] at q; cases q) (fun fs hr => retOut X hx hret (by cases ty <;> first | rfl | cases hty) (Or.inr (Or.inr (Or.inr (Or.inr ⟨rfl, hty, rfl⟩)))) hd hr) hC hS hQ
theorem ownRetV (X : Stand p l e R s m args below meth c T locs cells slots) (hx : p.tables.exec = Jvm.exec) (hlk : meth.locks = false) (hret : meth.sig.returnType = none) {pc : Nat} {Ls : Array Slot} (hd : decode c.code pc = .ok (.return_, 1)) (hC : cells ≤ C) (hS : slots ≤ S) (hQ : Q none T.heap locs) : ownFin p e below (ownFE s C S) Q (T.setTop (mkF m pc Ls [])) :=
  ownRet X hlk (v := none) (fun _ => rfl) (fun fs hr => X.returnOut hx hret hd hr) hC hS hQ
/-- the contract of a method at given arguments and a given heap -/
abbrev ownMet (l : Launch) (Z : State) (y : MethodName) (bytes : ByteArray) (maxL : Nat) (ret : Option FieldType) (ws : List Jvm.Cond) (rm : Room) (as' : Array Value) (h0 : Heap) (Q : Option Value → Heap → List Loc → Prop) : Prop :=
  MetFree l y (head1 (Jvm.Cond.code y bytes maxL ret :: ws) rm) (fun a U => a = as' ∧ Z.Warmed39 U.vm ∧ U.heap = h0) (fun _ _ _ _ _ => True) (fun _ U o U' => ∃ v L, o = .returned v ∧ Q v U'.heap L ∧ FrameEnd U o U' L rm.cells rm.slots)
theorem ownBody {y : MethodName} {bytes : ByteArray} {maxL : Nat} {ret : Option FieldType} {ws : List Jvm.Cond} {rm : Room} {as' : Array Value} {h0 : Heap} (hpl : plainFor y = true)
    (H : ∀ (p : Program) (e : Env) (s : State) (m : MethodId) (below : List Frame) (meth : Method) (c : Code) (T : State), p.tables.exec = Jvm.exec → c.code = bytes → c.maxLocals = maxL → meth.sig.returnType = ret → meth.locks = false → Z.Warmed39 s.vm → s.vm.findClass y.cls = some m.cls → meth.name = y.name →
      Stand p l e rm s m as' below meth c T [] 0 0 → T.heap = h0 → ownFin p e below (ownFE s rm.cells rm.slots) Q (T.setTop (entryFrame m as' maxL))) : ownMet l Z y bytes maxL ret ws rm as' h0 Q := by
  refine MetFree.of_bodySF hpl hisR ?_
  intro p e s m args below meth c s₁ Bd hml0 hP hK
  obtain ⟨rfl, hZ, hh⟩ := hP
  exact H p e s m below meth c s₁ Bd.exec Bd.bytes hml0 Bd.returns Bd.notSynchronized hZ (findClass_of_methodNamed Bd.named) (name_of_methodNamed Bd.named Bd.method).1 (Stand.of_body Bd) (by rw [← hh, Bd.state]; rfl)
theorem ownCallS {own : String} {index : Nat} {y : MethodName} {bytes : ByteArray} {maxL : Nat} {ret : Option FieldType} {rm : Room} {as' : Array Value} {Q' : Option Value → Heap → List Loc → Prop}
    (X : Stand p l e R s m args below meth c T locs cells slots) (hx : p.tables.exec = Jvm.exec) (hZ : Z.Warmed39 s.vm) (hown : s.vm.findClass own = some m.cls)
    (w1 : (Jvm.Cond.methodLink own index y).before a0 Z = true) (w2 : (Jvm.Cond.static y).before a0 Z = true) (w3 : (Jvm.Cond.initialized y.cls).before a0 Z = true) (w4 : (Jvm.Cond.code y bytes maxL ret).before a0 Z = true)
    (hy : y.cls ≠ "java/lang/invoke/MethodHandle" ∧ y.cls ≠ "java/lang/invoke/VarHandle") (eT : T.heap = h) (hM : ownMet l Z y bytes maxL ret [] rm as' h Q')
    {pc : Nat} {Ls : Array Slot} {st : List Value} (hsz : Ls.size = c.maxLocals) (argsL rest : List Value) (hlen : ∀ sig, parseMethodDescriptor y.desc = some sig → argsL.length = sig.parameters.length)
    (hst : st = argsL.reverse ++ rest) (has : argsL.toArray = as') (W : Nat) (hW : (rest.map fun v => v.category).sum = W) (hd : decode c.code pc = .ok (.invokestatic index, 3))
    (hfr : rm.frames + 1 ≤ R.frames) (hlo : W + (maxL + 11) + rm.locals ≤ R.locals) (hce : cells + rm.cells ≤ R.cells) (hsl : slots + rm.slots ≤ R.slots)
    (K : ∀ v T' L', Stand p l e R s m args below meth c T' (locs ++ L') (cells + rm.cells) (slots + rm.slots) → Q' v T'.heap L' → ownFin p e below F Q (T'.setTop (mkF m (pc + 3) Ls (v.toList ++ rest)))) :
    ownFin p e below F Q (T.setTop (mkF m pc Ls st)) := by
  obtain ⟨v, _, ⟨T2, L2, k2, n2⟩, -, X2, ⟨Lc2, hQ2, l2, y2, z2⟩, st2⟩ := Jvm.LawKit.callS X hx (y := y) hown (mvT hZ w1) (mvT hZ w2) (mvT hZ w3) (mvT hZ w4) hy (backOf (W := W) hM hZ w4 w3 hfr hlo) (g := mkF m pc Ls st) rfl hsz (argsL := argsL) (rest := rest) hlen hst (by show 2 * 0 + _ ≤ _; omega) hd (fun _ _ => ⟨has, eT, hce, hsl⟩)
  dsimp only [Pt.U, Pt.locs, Pt.cells, Pt.slots] at X2 l2 y2 z2 st2 hQ2
  subst l2 y2 z2
  exact ownVia st2 (K v T2 Lc2 X2 hQ2)
theorem ownCallN {own : String} {index : Nat} {y : MethodName} {bytes : ByteArray} {maxL : Nat} {rm : Room} {as' : Array Value} {Q' : Option Value → Heap → List Loc → Prop}
    (X : Stand p l e R s m args below meth c T locs cells slots) (hx : p.tables.exec = Jvm.exec) (hZ : Z.Warmed39 s.vm) (hown : s.vm.findClass own = some m.cls) (hy1 : y.name = "<init>")
    (w1 : (Jvm.Cond.methodLink own index y).before a0 Z = true) (w2 : (Jvm.Cond.instanceMethod y).before a0 Z = true) (w3 : (Jvm.Cond.initialized y.cls).before a0 Z = true) (w4 : (Jvm.Cond.code y bytes maxL none).before a0 Z = true)
    (hy : y.cls ≠ "java/lang/invoke/MethodHandle" ∧ y.cls ≠ "java/lang/invoke/VarHandle") (eT : T.heap = h) (hM : ownMet l Z y bytes maxL none [] rm as' h Q')
    {pc : Nat} {Ls : Array Slot} {st : List Value} (hsz : Ls.size = c.maxLocals) (a : Addr) (argsL rest : List Value) (hlen : ∀ sig, parseMethodDescriptor y.desc = some sig → argsL.length = sig.parameters.length)
    (hst : st = argsL.reverse ++ .ref a :: rest) (has : (Value.ref a :: argsL).toArray = as') (W : Nat) (hW : (rest.map fun v => v.category).sum = W) (hd : decode c.code pc = .ok (.invokespecial index, 3))
    (hfr : rm.frames + 1 ≤ R.frames) (hlo : W + (maxL + 11) + rm.locals ≤ R.locals) (hce : cells + rm.cells ≤ R.cells) (hsl : slots + rm.slots ≤ R.slots)
    (K : ∀ v T' L', Stand p l e R s m args below meth c T' (locs ++ L') (cells + rm.cells) (slots + rm.slots) → Q' v T'.heap L' → ownFin p e below F Q (T'.setTop (mkF m (pc + 3) Ls (v.toList ++ rest)))) :
    ownFin p e below F Q (T.setTop (mkF m pc Ls st)) := by
  obtain ⟨v, _, ⟨T2, L2, k2, n2⟩, -, X2, ⟨Lc2, hQ2, l2, y2, z2⟩, st2⟩ := X.specialBack hx (y := y) hy1 hown (mvT hZ w1) (mvT hZ w2) (mvT hZ w4) hy (backOf (W := W) hM hZ w4 w3 hfr hlo) (g := mkF m pc Ls st) rfl hsz (Steps.refl _) (a := a) (argsL := argsL) (rest := rest) hlen hst (by show 2 * 0 + _ ≤ _; omega) hd (fun _ _ => ⟨has, eT, hce, hsl⟩)
  dsimp only [Pt.U, Pt.locs, Pt.cells, Pt.slots] at X2 l2 y2 z2 st2 hQ2
  subst l2 y2 z2
  exact ownVia (fun _ k => st2.trans k) (K v T2 Lc2 X2 hQ2)
theorem ownCallV {own C' : String} {index : Nat} {y z : MethodName} {bytes : ByteArray} {maxL : Nat} {ret : Option FieldType} {rm : Room} {as' : Array Value} {Q' : Option Value → Heap → List Loc → Prop}
    (X : Stand p l e R s m args below meth c T locs cells slots) (hx : p.tables.exec = Jvm.exec) (hZ : Z.Warmed39 s.vm) (hown : s.vm.findClass own = some m.cls)
    (w1 : (Jvm.Cond.methodLink own index y).before a0 Z = true) (w2 : (Jvm.Cond.declares y).before a0 Z = true) (w5 : (Jvm.Cond.selects y.cls y y).before a0 Z = true) (w6 : (Jvm.Cond.selects C' y z).before a0 Z = true) (w7 : (Jvm.Cond.instanceMethod z).before a0 Z = true) (w3 : (Jvm.Cond.initialized z.cls).before a0 Z = true) (w4 : (Jvm.Cond.code z bytes maxL ret).before a0 Z = true)
    (hy : y.cls ≠ "java/lang/invoke/MethodHandle" ∧ y.cls ≠ "java/lang/invoke/VarHandle") (eT : T.heap = h) {a : Addr} (E : Exa Z h a C') (hM : ownMet l Z z bytes maxL ret [] rm as' h Q')
    {pc : Nat} {Ls : Array Slot} {st : List Value} (hsz : Ls.size = c.maxLocals) (argsL rest : List Value) (hlen : ∀ sig, parseMethodDescriptor y.desc = some sig → argsL.length = sig.parameters.length)
    (hst : st = argsL.reverse ++ .ref a :: rest) (has : (Value.ref a :: argsL).toArray = as') (W : Nat) (hW : (rest.map fun v => v.category).sum = W) (hd : decode c.code pc = .ok (.invokevirtual index, 3))
    (hfr : rm.frames + 1 ≤ R.frames) (hlo : W + (maxL + 11) + rm.locals ≤ R.locals) (hce : cells + rm.cells ≤ R.cells) (hsl : slots + rm.slots ≤ R.slots)
    (K : ∀ v T' L', Stand p l e R s m args below meth c T' (locs ++ L') (cells + rm.cells) (slots + rm.slots) → Q' v T'.heap L' → ownFin p e below F Q (T'.setTop (mkF m (pc + 3) Ls (v.toList ++ rest)))) :
    ownFin p e below F Q (T.setTop (mkF m pc Ls st)) := by
  obtain ⟨cq, kq, qa, qb, qc⟩ := isOf hZ eT E
  obtain ⟨v, _, ⟨T2, L2, k2, n2⟩, -, X2, ⟨Lc2, hQ2, l2, y2, z2⟩, st2⟩ := X.virtualBack hx (y := y) (z := z) hown (mvT hZ w1) (mvT hZ w2) (notFace_of_selects (args := #[]) (mvT hZ w5)) (mvT hZ w6) (mvT hZ w7) hy (backOf (W := W) hM hZ w4 w3 hfr hlo) qa qc (g := mkF m pc Ls st) rfl hsz (Steps.refl _) (argsL := argsL) (rest := rest) hlen hst (by show 2 * 0 + _ ≤ _; omega) hd (fun _ _ => ⟨has, eT, hce, hsl⟩)
  dsimp only [Pt.U, Pt.locs, Pt.cells, Pt.slots] at X2 l2 y2 z2 st2 hQ2
  subst l2 y2 z2
  exact ownVia (fun _ k => st2.trans k) (K v T2 Lc2 X2 hQ2)
theorem ownLen {a : Addr} {k : ClassId} {ty : FieldType} {z : Int32} {vs : List Value} {dv : Value} (X : Stand p l e R s m args below meth c T locs cells slots) (hx : p.tables.exec = Jvm.exec) (hZ : Z.Warmed39 s.vm) (eT : T.heap = h) (A : Arv Z h a k ty z vs dv) {pc : Nat} {Ls : Array Slot} {rest : List Value} (hd : decode c.code pc = .ok (.arraylength, 1))
    (K : ownFin p e below F Q (T.setTop (mkF m (pc + 1) Ls (.int z :: rest)))) : ownFin p e below F Q (T.setTop (mkF m pc Ls (.ref a :: rest))) := by
  obtain ⟨cl, Ar, -, Sz, Nz, -, -⟩ := A
  rw [← len_of Sz Nz] at K
  exact ownVia (fun t k => X.arraylength hx (by rw [eT]; exact Ar.1) (State.isArrayOf_alike hZ.alike Ar.2.1) (g := mkF m pc Ls (.ref a :: rest)) rfl rfl hd t k) K
theorem ownBaload {a : Addr} {k : ClassId} {z j : Int32} {vs : List Value} {dv v : Value} (X : Stand p l e R s m args below meth c T locs cells slots) (hx : p.tables.exec = Jvm.exec) (hZ : Z.Warmed39 s.vm) (eT : T.heap = h) (A : Arv Z h a k .byte z vs dv) (hj : ¬ j < 0 ∧ j < z) (hv : vs.getD j.toNatClampNeg dv = v) {pc : Nat} {Ls : Array Slot} {rest : List Value} (hd : decode c.code pc = .ok (.baload, 1))
    (K : ownFin p e below F Q (T.setTop (mkF m (pc + 1) Ls (v :: rest)))) : ownFin p e below F Q (T.setTop (mkF m pc Ls (.int j :: .ref a :: rest))) := by
  obtain ⟨cl, Ar, -, Sz, Nz, H, -⟩ := A
  have hin := inb_of Sz hj
  exact ownVia (fun t k => X.baloadBytes hx (by rw [eT]; exact Ar.1) (State.isArrayOf_alike hZ.alike Ar.2.1) Ar.2.2 hin (H.at hin hv) (g := mkF m pc Ls (.int j :: .ref a :: rest)) rfl rfl hd t k) K
theorem ownIaload {a : Addr} {k : ClassId} {z j : Int32} {vs : List Value} {dv v : Value} (X : Stand p l e R s m args below meth c T locs cells slots) (hx : p.tables.exec = Jvm.exec) (hZ : Z.Warmed39 s.vm) (eT : T.heap = h) (A : Arv Z h a k .int z vs dv) (hj : ¬ j < 0 ∧ j < z) (hv : vs.getD j.toNatClampNeg dv = v) {pc : Nat} {Ls : Array Slot} {rest : List Value} (hd : decode c.code pc = .ok (.iaload, 1))
    (K : ownFin p e below F Q (T.setTop (mkF m (pc + 1) Ls (v :: rest)))) : ownFin p e below F Q (T.setTop (mkF m pc Ls (.int j :: .ref a :: rest))) := by
  obtain ⟨cl, Ar, -, Sz, Nz, H, -⟩ := A
  have hin := inb_of Sz hj
  exact ownVia (fun t k => X.iaload hx (by rw [eT]; exact Ar.1) (State.isArrayOf_alike hZ.alike Ar.2.1) Ar.2.2 hin (H.at hin hv) (g := mkF m pc Ls (.int j :: .ref a :: rest)) rfl rfl hd t k) K
theorem ownLaload {a : Addr} {k : ClassId} {z j : Int32} {vs : List Value} {dv v : Value} (X : Stand p l e R s m args below meth c T locs cells slots) (hx : p.tables.exec = Jvm.exec) (hZ : Z.Warmed39 s.vm) (eT : T.heap = h) (A : Arv Z h a k .long z vs dv) (hj : ¬ j < 0 ∧ j < z) (hv : vs.getD j.toNatClampNeg dv = v) {pc : Nat} {Ls : Array Slot} {rest : List Value} (hd : decode c.code pc = .ok (.laload, 1))
    (K : ownFin p e below F Q (T.setTop (mkF m (pc + 1) Ls (v :: rest)))) : ownFin p e below F Q (T.setTop (mkF m pc Ls (.int j :: .ref a :: rest))) := by
  obtain ⟨cl, Ar, -, Sz, Nz, H, -⟩ := A
  have hin := inb_of Sz hj
  exact ownVia (fun t k => X.laload hx (by rw [eT]; exact Ar.1) (State.isArrayOf_alike hZ.alike Ar.2.1) Ar.2.2 hin (H.at hin hv) (g := mkF m pc Ls (.int j :: .ref a :: rest)) rfl rfl hd t k) K
theorem ownBastore {a : Addr} {k : ClassId} {z j x : Int32} {vs : List Value} {dv : Value} {n0 : Nat} (X : Stand p l e R s m args below meth c T locs cells slots) (hx : p.tables.exec = Jvm.exec) (hZ : Z.Warmed39 s.vm) (eT : T.heap = h) (A : Arv Z h a k .byte z vs dv) (hj : ¬ j < 0 ∧ j < z) (i : Nat) (hi : j.toNatClampNeg = i) (hl : i < vs.length) (N : Fr n0 locs) (ge : n0 ≤ a) {pc : Nat} {Ls : Array Slot} {rest : List Value} (hd : decode c.code pc = .ok (.bastore, 1))
    (K : ∀ T' h' L', Stand p l e R s m args below meth c T' L' cells slots → T'.heap = h' → Fr n0 L' → Wr h h' a i (.int (nar .byte x)) → Arv Z h' a k .byte z (vs.set i (.int (nar .byte x))) dv → ownFin p e below F Q (T'.setTop (mkF m (pc + 1) Ls rest))) :
    ownFin p e below F Q (T.setTop (mkF m pc Ls (.int x :: .int j :: .ref a :: rest))) := by
  obtain ⟨cl, Ar, q1, Sz, Nz, H, G⟩ := A
  obtain ⟨T', h', X', e', W, st⟩ := stB X hx hZ eT Ar (j := j) (x := x) (inb_of Sz hj) (g := mkF m pc Ls (.int x :: .int j :: .ref a :: rest)) rfl rfl hd
  have N' := Fr.snoc X' N ge
  have A' := Arv.set Ar q1 Sz Nz H G (fits_nar_byte x) W i hi hl
  rw [hi] at W
  exact ownVia st (K T' h' _ X' e' N' W A')
theorem ownIastore {a : Addr} {k : ClassId} {z j x : Int32} {vs : List Value} {dv : Value} {n0 : Nat} (X : Stand p l e R s m args below meth c T locs cells slots) (hx : p.tables.exec = Jvm.exec) (hZ : Z.Warmed39 s.vm) (eT : T.heap = h) (A : Arv Z h a k .int z vs dv) (hj : ¬ j < 0 ∧ j < z) (i : Nat) (hi : j.toNatClampNeg = i) (hl : i < vs.length) (N : Fr n0 locs) (ge : n0 ≤ a) {pc : Nat} {Ls : Array Slot} {rest : List Value} (hd : decode c.code pc = .ok (.iastore, 1))
    (K : ∀ T' h' L', Stand p l e R s m args below meth c T' L' cells slots → T'.heap = h' → Fr n0 L' → Wr h h' a i (.int x) → Arv Z h' a k .int z (vs.set i (.int x)) dv → ownFin p e below F Q (T'.setTop (mkF m (pc + 1) Ls rest))) :
    ownFin p e below F Q (T.setTop (mkF m pc Ls (.int x :: .int j :: .ref a :: rest))) := by
  obtain ⟨cl, Ar, q1, Sz, Nz, H, G⟩ := A
  obtain ⟨T', h', X', e', W, st⟩ := stI X hx hZ eT Ar (j := j) (x := x) (inb_of Sz hj) (g := mkF m pc Ls (.int x :: .int j :: .ref a :: rest)) rfl rfl hd
  have N' := Fr.snoc X' N ge
  have A' := Arv.set Ar q1 Sz Nz H G rfl W i hi hl
  rw [hi] at W
  exact ownVia st (K T' h' _ X' e' N' W A')
theorem ownLastore {a : Addr} {k : ClassId} {z j : Int32} {x : Int64} {vs : List Value} {dv : Value} {n0 : Nat} (X : Stand p l e R s m args below meth c T locs cells slots) (hx : p.tables.exec = Jvm.exec) (hZ : Z.Warmed39 s.vm) (eT : T.heap = h) (A : Arv Z h a k .long z vs dv) (hj : ¬ j < 0 ∧ j < z) (i : Nat) (hi : j.toNatClampNeg = i) (hl : i < vs.length) (N : Fr n0 locs) (ge : n0 ≤ a) {pc : Nat} {Ls : Array Slot} {rest : List Value} (hd : decode c.code pc = .ok (.lastore, 1))
    (K : ∀ T' h' L', Stand p l e R s m args below meth c T' L' cells slots → T'.heap = h' → Fr n0 L' → Wr h h' a i (.long x) → Arv Z h' a k .long z (vs.set i (.long x)) dv → ownFin p e below F Q (T'.setTop (mkF m (pc + 1) Ls rest))) :
    ownFin p e below F Q (T.setTop (mkF m pc Ls (.long x :: .int j :: .ref a :: rest))) := by
  obtain ⟨cl, Ar, q1, Sz, Nz, H, G⟩ := A
  obtain ⟨T', h', X', e', W, st⟩ := stJ X hx hZ eT Ar (j := j) (x := x) (inb_of Sz hj) (g := mkF m pc Ls (.long x :: .int j :: .ref a :: rest)) rfl rfl hd
  have N' := Fr.snoc X' N ge
  have A' := Arv.set Ar q1 Sz Nz H G rfl W i hi hl
  rw [hi] at W
  exact ownVia st (K T' h' _ X' e' N' W A')
theorem ownNewP {aty : ArrayType} {n : Int32} (X : Stand p l e R s m args below meth c T locs cells slots) (hx : p.tables.exec = Jvm.exec) (hZ : Z.Warmed39 s.vm) (w : (Jvm.Cond.arrayClass (newarray.typeOf aty)).before a0 Z = true) (eT : T.heap = h) (ad : String) (had : "[" ++ (newarray.typeOf aty).toString = ad) (hn : ¬ n < 0) (N : Nat) (hN : n.toNatClampNeg = N) (cap : Nat) (hcap : N ≤ cap) (hb : cap * 8 ≤ 536870912) (hc : cells + 1 ≤ R.cells) (hl : slots + cap ≤ R.slots)
    {pc : Nat} {Ls : Array Slot} {rest : List Value} (hd : decode c.code pc = .ok (.newarray aty, 2))
    (K : ∀ T' h' k a, a = h.size → Stand p l e R s m args below meth c T' locs (cells + 1) (slots + cap) → T'.heap = h' → Ext h h' → Arv Z h' a k (newarray.typeOf aty) n (List.replicate N (defaultValue (newarray.typeOf aty))) (defaultValue (newarray.typeOf aty)) → Exa Z h' a ad → ownFin p e below F Q (T'.setTop (mkF m (pc + 2) Ls (.ref a :: rest)))) :
    ownFin p e below F Q (T.setTop (mkF m pc Ls (.int n :: rest))) := by
  obtain ⟨T', h', k, X', e', E, A, Ex, st⟩ := newPE X hx hZ w eT (g := mkF m pc Ls (.int n :: rest)) rfl hd rfl hn (cap := cap) (by rw [hN]; exact hcap) hb hc hl had
  exact ownVia st (K T' h' k _ rfl X' e' E ((Arv.new A hn).pad (pad_rep [] _ _)) Ex)
theorem ownClone {own : String} {index : Nat} {a : Addr} {k : ClassId} {ty : FieldType} {z : Int32} {vs : List Value} {dv : Value} {ad : String} (X : Stand p l e R s m args below meth c T locs cells slots) (hx : p.tables.exec = Jvm.exec) (hZ : Z.Warmed39 s.vm) (hown : s.vm.findClass own = some m.cls)
    (w1 : (Jvm.Cond.methodLink own index ⟨ad, "clone", "()Ljava/lang/Object;"⟩).before a0 Z = true) (w2 : (Jvm.Cond.sameMethod ad "java/lang/Object" "clone" "()Ljava/lang/Object;").before a0 Z = true) (w3 : (Jvm.Cond.native ⟨"java/lang/Object", "clone", "()Ljava/lang/Object;"⟩).before a0 Z = true)
    (w4 : (Jvm.Cond.instanceMethod ⟨"java/lang/Object", "clone", "()Ljava/lang/Object;"⟩).before a0 Z = true) (w5 : (Jvm.Cond.selects ad ⟨ad, "clone", "()Ljava/lang/Object;"⟩ ⟨"java/lang/Object", "clone", "()Ljava/lang/Object;"⟩).before a0 Z = true) (w6 : (Jvm.Cond.castable ad "java/lang/Cloneable").before a0 Z = true)
    (eT : T.heap = h) (A : Arv Z h a k ty z vs dv) (E : Exa Z h a ad) {pc : Nat} {Ls : Array Slot} {rest : List Value} (hsz : Ls.size = c.maxLocals) (hd : decode c.code pc = .ok (.invokevirtual index, 3)) (hf : 1 ≤ R.frames) (W : Nat) (hW : (rest.map fun v => v.category).sum = W) (hlo : W + 14 ≤ R.locals) (cap : Nat) (hcap : z.toNatClampNeg ≤ cap) (hc : cells + 1 ≤ R.cells) (hsl : slots + cap ≤ R.slots)
    (K : ∀ T' h' b, b = h.size → Stand p l e R s m args below meth c T' locs (cells + 1) (slots + cap) → T'.heap = h' → Ext h h' → Arv Z h' b k ty z vs dv → Exa Z h' b ad → ownFin p e below F Q (T'.setTop (mkF m (pc + 3) Ls (.ref b :: rest)))) :
    ownFin p e below F Q (T.setTop (mkF m pc Ls (.ref a :: rest))) := by
  obtain ⟨T', h', X', e', Ex, A', E', st⟩ := cloneH X hx hZ hown w1 w2 w3 w4 w5 w6 eT A.arh E (g := mkF m pc Ls (.ref a :: rest)) rfl hsz rfl hd hf (W := W) (by show 2 * 0 + _ ≤ _; omega) hlo hcap hc hsl
  exact ownVia st (K T' h' _ rfl X' e' Ex A' E')
theorem ownCallP {own : String} {index : Nat} {y y2 : MethodName} {bytes : ByteArray} {maxL : Nat} {ret : Option FieldType} {rm : Room} {as' : Array Value} {Q' : Option Value → Heap → List Loc → Prop} {C' : String}
    (X : Stand p l e R s m args below meth c T locs cells slots) (hx : p.tables.exec = Jvm.exec) (hZ : Z.Warmed39 s.vm) (hown : s.vm.findClass own = some m.cls)
    (w1 : (Jvm.Cond.methodLink own index y).before a0 Z = true) (w2 : (Jvm.Cond.privateMethod y).before a0 Z = true) (w5 : (Jvm.Cond.selects y2.cls y2 y2).before a0 Z = true) (hc2 : y2.cls = y.cls) (w7 : (Jvm.Cond.instanceMethod y).before a0 Z = true) (w3 : (Jvm.Cond.initialized y.cls).before a0 Z = true) (w4 : (Jvm.Cond.code y bytes maxL ret).before a0 Z = true)
    (hy : y.cls ≠ "java/lang/invoke/MethodHandle" ∧ y.cls ≠ "java/lang/invoke/VarHandle") (eT : T.heap = h) {a : Addr} (E : Exa Z h a C') (hM : ownMet l Z y bytes maxL ret [] rm as' h Q')
    {pc : Nat} {Ls : Array Slot} {st : List Value} (hsz : Ls.size = c.maxLocals) (argsL rest : List Value) (hlen : ∀ sig, parseMethodDescriptor y.desc = some sig → argsL.length = sig.parameters.length)
    (hst : st = argsL.reverse ++ .ref a :: rest) (has : (Value.ref a :: argsL).toArray = as') (W : Nat) (hW : (rest.map fun v => v.category).sum = W) (hd : decode c.code pc = .ok (.invokevirtual index, 3))
    (hfr : rm.frames + 1 ≤ R.frames) (hlo : W + (maxL + 11) + rm.locals ≤ R.locals) (hce : cells + rm.cells ≤ R.cells) (hsl : slots + rm.slots ≤ R.slots)
    (K : ∀ v T' L', Stand p l e R s m args below meth c T' (locs ++ L') (cells + rm.cells) (slots + rm.slots) → Q' v T'.heap L' → ownFin p e below F Q (T'.setTop (mkF m (pc + 3) Ls (v.toList ++ rest)))) :
    ownFin p e below F Q (T.setTop (mkF m pc Ls st)) := by
  have hpriv : s.PrivateAt y := Cond.privateMethod_at (mvP hZ w2 (args := #[]))
  have hsel2 : (Jvm.Cond.selects y2.cls y2 y2).before args s = true := mvT hZ w5
  obtain ⟨c2, r2, m2, q1, q2, q3, q4, kP, hkP, hkPi⟩ := Cond.selects_spec hsel2
  have hf2 := findClass_of_methodNamed q3
  rw [hc2] at hf2
  have hsel : (Jvm.Cond.selects y.cls y y).before args s = true := selects_self_of_private hf2 hkP hkPi hpriv (mvT hZ w7) hy
  obtain ⟨cq, qc1, qc2⟩ := E.cell
  obtain ⟨v, _, ⟨T2, L2, k2, n2⟩, -, X2, ⟨Lc2, hQ2, l2, y2', z2⟩, st2⟩ := X.privateBack hx (y := y) hown (mvT hZ w1) (mvT hZ w7) hsel hpriv (mvT hZ w4) hy (backOf (W := W) hM hZ w4 w3 hfr hlo) (g := mkF m pc Ls st) rfl hsz (Steps.refl _) (a := a) (by rw [eT]; exact qc1) qc2 (argsL := argsL) (rest := rest) hlen hst (by show 2 * 0 + _ ≤ _; omega) hd (fun _ _ => ⟨has, eT, hce, hsl⟩)
  dsimp only [Pt.U, Pt.locs, Pt.cells, Pt.slots] at X2 l2 y2' z2 st2 hQ2
  subst l2 y2' z2
  exact ownVia (fun _ k => st2.trans k) (K v T2 Lc2 X2 hQ2)
theorem ownCast {own K' : String} {index : Nat} {a : Addr} (X : Stand p l e R s m args below meth c T locs cells slots) (hx : p.tables.exec = Jvm.exec) (hZ : Z.Warmed39 s.vm) (hown : s.vm.findClass own = some m.cls) (w : (Jvm.Cond.classLink own index K').before a0 Z = true) (eT : T.heap = h) (FI : Ins Z h a K' true) {pc : Nat} {Ls : Array Slot} {rest : List Value} (hd : decode c.code pc = .ok (.checkcast index, 3))
    (K : ∀ T', Stand p l e R s m args below meth c T' locs cells slots → T'.heap = h → ownFin p e below F Q (T'.setTop (mkF m (pc + 3) Ls (.ref a :: rest)))) : ownFin p e below F Q (T.setTop (mkF m pc Ls (.ref a :: rest))) := by
  obtain ⟨T', X', e', st⟩ := castY X hx hZ hown w eT FI (g := mkF m pc Ls (.ref a :: rest)) rfl rfl hd
  exact ownVia st (K T' X' e')
theorem own_clamp {j : Int32} {n : Nat} (h : j.toInt = (n : Int)) : j.toNatClampNeg = n := by
  show j.toInt.toNat = n
  rw [h]; rfl
theorem own_nneg {j : Int32} {n : Nat} (h : j.toInt = (n : Int)) : ¬ j < 0 := fun q => by
  have := Int32.lt_iff_toInt_lt.mp q
  have k0 : (0 : Int32).toInt = 0 := by decide
  omega
theorem ownCopy {own : String} {index : Nat} {a b : Addr} {k k' : ClassId} {ty : FieldType} {z z' sp dp nn : Int32} {vs vd : List Value} {dv dd : Value} {n0 : Nat} (X : Stand p l e R s m args below meth c T locs cells slots) (hx : p.tables.exec = Jvm.exec) (hZ : Z.Warmed39 s.vm) (hown : s.vm.findClass own = some m.cls)
    (w1 : (Jvm.Cond.methodLink own index Jvm.Stand.acN).before a0 Z = true) (w2 : (Jvm.Cond.native Jvm.Stand.acN).before a0 Z = true) (w3 : (Jvm.Cond.static Jvm.Stand.acN).before a0 Z = true) (w4 : (Jvm.Cond.initialized "java/lang/System").before a0 Z = true) (eT : T.heap = h)
    (A : Arv Z h a k ty z vs dv) (B : Arv Z h b k' ty z' vd dd) (hty : refKind ty = false) (i j n lz lz' : Nat) (hi : sp.toInt = (i : Int)) (hj : dp.toInt = (j : Int)) (hn : nn.toInt = (n : Int)) (hz : z.toInt = (lz : Int)) (hz' : z'.toInt = (lz' : Int)) (h4 : i + n ≤ lz) (h5 : j + n ≤ lz') (hl : j + n ≤ vd.length) (N : Fr n0 locs) (ge : n0 ≤ b)
    {pc : Nat} {Ls : Array Slot} {rest : List Value} (hsz : Ls.size = c.maxLocals) (hd : decode c.code pc = .ok (.invokestatic index, 3)) (hf : 1 ≤ R.frames) (W : Nat) (hW : (rest.map fun v => v.category).sum = W) (hlo : W + (nativeFrameWords "java/lang/System" "arraycopy" 5 + 11) ≤ R.locals)
    (K : ∀ T' h' L', Stand p l e R s m args below meth c T' L' cells slots → T'.heap = h' → Fr n0 L' → Keep h h' [b] → Arv Z h' b k' ty z' (vd.take j ++ ((List.range n).map fun x => vs.getD (i + x) dv) ++ vd.drop (j + n)) dd → ownFin p e below F Q (T'.setTop (mkF m (pc + 3) Ls rest))) :
    ownFin p e below F Q (T.setTop (mkF m pc Ls (.int nn :: .int dp :: .ref b :: .int sp :: .ref a :: rest))) := by
  have e1 := own_clamp hi
  have e2 := own_clamp hj
  have e3 := own_clamp hn
  have e4 := own_clamp hz
  have e5 := own_clamp hz'
  obtain ⟨T', h', L', X', e', N', K', B', st⟩ := cpA X hx hZ hown w1 w2 w3 w4 eT A B (Or.inl ⟨rfl, hty⟩) (own_nneg hi) (own_nneg hj) (own_nneg hn) (by omega) (by omega) rfl (by omega) N ge (g := mkF m pc Ls (.int nn :: .int dp :: .ref b :: .int sp :: .ref a :: rest)) rfl hsz rfl hd hf (W := W) (by show 2 * 0 + _ ≤ _; omega) hlo
  rw [e1, e2, e3] at B'
  exact ownVia st (K T' h' L' X' e' N' K' B')
theorem own_lti {a b : Int32} {x y : Int} (ha : a.toInt = x) (hb : b.toInt = y) : a < b ↔ x < y := by rw [Int32.lt_iff_toInt_lt, ha, hb]
theorem own_sub {a b : Int32} {i j : Nat} (ha : a.toInt = (i : Int)) (hb : b.toInt = (j : Int)) (h : j ≤ i) : (a - b).toInt = ((i - j : Nat) : Int) := by
  have h1 := c_isub a b
  have h2 := rng32 (a - b)
  have h3 := rng32 a
  have h4 := rng32 b
  omega
theorem own_add {a b : Int32} {i j : Nat} (ha : a.toInt = (i : Int)) (hb : b.toInt = (j : Int)) (h : i + j < 2147483648) : (a + b).toInt = ((i + j : Nat) : Int) := by
  have h1 := c_iadd a b
  have h2 := rng32 (a + b)
  omega
theorem own_nlt {a b : Int32} {i j : Int} (ha : a.toInt = i) (hb : b.toInt = j) (h : j ≤ i) : ¬ a < b := fun q => by
  have := (own_lti ha hb).mp q
  omega
theorem own_enum {args : Array Value} {C n d K : String} (hx : (Jvm.Cond.exactly (.static C n d) K).value args s none s [] = some true) (wi : (Jvm.Cond.initialized C).before args s = true) (wl : (Jvm.Cond.laysStatic C n d).before args s = true) :
    ∃ a, (Term.static C n d).eval args s none [] s = some (.ref a) ∧ Sta s s.heap C n d (.ref a) ∧ Exa s s.heap a K := by
  obtain ⟨a, ev⟩ := exa_v hx
  exact ⟨a, ev, Sta.start ev (Or.inr ⟨wi, wl⟩), Exa.start ev hx⟩
theorem own_eqv {args : Array Value} {t : Term} {k : Int32} (hf : (Jvm.Cond.eq t (.int k)).value args s none s [] = some true) : t.eval args s none [] s = some (.int k) := by
  cases hv : t.eval args s none [] s with
  | none => simp [Cond.value, hv] at hf
  | some v =>
    cases v <;> simp [Cond.value, hv, Term.eval] at hf
    rw [hf]
theorem own_efld {args : Array Value} {t : Term} {a : Addr} {C n d : String} {k : Int32} (ev : t.eval args s none [] s = some (.ref a)) (hf : (Jvm.Cond.eq (.field t C n d) (.int k)).value args s none s [] = some true) : Fld s s.heap a C n d (.int k) :=
  Fld.start ((fld_at ev).symm.trans (own_eqv hf))
theorem own_iff_f {A B P : Prop} (hA : ¬ A) (h : P ↔ A ∨ B) : P ↔ B := by simpa [hA] using h
theorem own_iff_t {A B P : Prop} (hA : A) (h : P ↔ A ∨ B) : P := h.mpr (Or.inl hA)
theorem own_ref_ne {a b : Addr} (h : a ≠ b) : ¬ (Value.ref a) = .ref b := fun q => h (by cases q; rfl)
theorem own_sz {n0 : Nat} {h' : Heap} (q : n0 ≤ h.size) (E : Ext h h') : n0 ≤ h'.size := Nat.le_trans q E.1
theorem own_szW {n0 : Nat} {h' : Heap} {a : Addr} {sl : Nat} {v : Value} (q : n0 ≤ h.size) (W : Wr h h' a sl v) : n0 ≤ h'.size := by rw [W.size]; exact q
theorem own_eqi {a b : Int32} {x y : Int} (ha : a.toInt = x) (hb : b.toInt = y) : a = b ↔ x = y := by rw [← Int32.toInt_inj, ha, hb]
theorem own_ltl {a b : Int64} {x y : Int} (ha : a.toInt = x) (hb : b.toInt = y) : a < b ↔ x < y := by rw [Int64.lt_iff_toInt_lt, ha, hb]
theorem own_eql {a b : Int64} {x y : Int} (ha : a.toInt = x) (hb : b.toInt = y) : a = b ↔ x = y := by rw [← Int64.toInt_inj, ha, hb]
theorem own_getD_map {α β : Type} (f : α → β) (d : α) (xs : List α) (n : Nat) : (xs.map f).getD n (f d) = f (xs.getD n d) := by
  simp only [List.getD_eq_getElem?_getD, List.getElem?_map]
  cases xs[n]? <;> rfl
theorem own_idx {j z : Int32} {zi : Int} (hz : z.toInt = zi) (h1 : 0 ≤ j.toInt) (h2 : j.toInt < zi) : ¬ j < 0 ∧ j < z := ⟨fun q => by have := (own_lti rfl (by decide : (0 : Int32).toInt = 0)).mp q; omega, Int32.lt_iff_toInt_lt.mpr (by rw [hz]; exact h2)⟩
end Own
def own_sg (a r k l : Addr) : Int32 := if a = r ∨ a = k ∨ a = l then 1 else 0
theorem own_sg1 {a r k l : Addr} (h : a = r ∨ a = k ∨ a = l) : own_sg a r k l = 1 := if_pos h
theorem own_sg0 {a r k l : Addr} (h : ¬ (a = r ∨ a = k ∨ a = l)) : own_sg a r k l = 0 := if_neg h
def own_hd (a r : Addr) : Int32 := if a = r then 0 else 1
theorem own_hd0 {a r : Addr} (h : a = r) : own_hd a r = 0 := if_pos h
theorem own_hd1 {a r : Addr} (h : ¬ a = r) : own_hd a r = 1 := if_neg h
theorem own_len (p : Int32) : 0 ≤ ((p &&& (2147483647 : Int32)) % (5 : Int32)).toInt ∧ ((p &&& (2147483647 : Int32)) % (5 : Int32)).toInt < 5 := by
  have a := c_mask p 2147483647 31 (by decide) (by decide)
  have b := (c_irem (p &&& (2147483647 : Int32)) 5 5 (by decide)).1 (by omega)
  omega
theorem d1_0 : decode prog_10_method_7_code 0 = .ok (.aload_n 0, 1) := by decide +kernel
theorem d1_1 : decode prog_10_method_7_code 1 = .ok (.getstatic 10, 3) := by decide +kernel
theorem d1_4 : decode prog_10_method_7_code 4 = .ok (.if_acmp .eq 17, 3) := by decide +kernel
theorem d1_7 : decode prog_10_method_7_code 7 = .ok (.aload_n 0, 1) := by decide +kernel
theorem d1_8 : decode prog_10_method_7_code 8 = .ok (.getstatic 13, 3) := by decide +kernel
theorem d1_11 : decode prog_10_method_7_code 11 = .ok (.if_acmp .eq 10, 3) := by decide +kernel
theorem d1_14 : decode prog_10_method_7_code 14 = .ok (.aload_n 0, 1) := by decide +kernel
theorem d1_15 : decode prog_10_method_7_code 15 = .ok (.getstatic 16, 3) := by decide +kernel
theorem d1_18 : decode prog_10_method_7_code 18 = .ok (.if_acmp .ne 7, 3) := by decide +kernel
theorem d1_21 : decode prog_10_method_7_code 21 = .ok (.iconst 1, 1) := by decide +kernel
theorem d1_22 : decode prog_10_method_7_code 22 = .ok (.goto 4, 3) := by decide +kernel
theorem d1_25 : decode prog_10_method_7_code 25 = .ok (.iconst 0, 1) := by decide +kernel
theorem d1_26 : decode prog_10_method_7_code 26 = .ok (.ireturn, 1) := by decide +kernel
theorem own_pn0 : plainName "com/example/cairn/cairn/ccnx/ValidationType" = true := by first | (simp [plainName, overriddenIn]; done) | decide +kernel
theorem own_ef1 (m : MethodId) (a1 : Addr) : entryFrame m #[(.ref a1)] 1 = mkF m 0 #[.val (.ref a1)] [] := by first | (simp [entryFrame, mkF, argsToLocals, Value.category]; done) | rfl
def Q_own_signs (Z : State) (a1 : Addr) (h0 : Heap) (n0 : Nat) (eR eK eL : Addr) : Option Value → Heap → List Loc → Prop := fun v h L => v = some (.int (own_sg a1 eR eK eL)) ∧ Fr n0 L ∧ h = h0
set_option maxRecDepth 65536 in
set_option maxHeartbeats 40000000 in
theorem own_signs (l : Launch) (Z : State) (a0 : Array Value) (hw : ∀ d ∈ tables_1, d.before a0 Z = true)  (a1 : Addr) (h0 : Heap) (n0 : Nat) (eR eK eL : Addr) (Z0 : n0 ≤ h0.size) (S_2 : Sta Z h0 "com/example/cairn/cairn/ccnx/ValidationType" "RSA_SHA256" "Lcom/example/cairn/cairn/ccnx/ValidationType;" (.ref eR)) (S_3 : Sta Z h0 "com/example/cairn/cairn/ccnx/ValidationType" "EC_SECP_256K1" "Lcom/example/cairn/cairn/ccnx/ValidationType;" (.ref eK)) (S_4 : Sta Z h0 "com/example/cairn/cairn/ccnx/ValidationType" "EC_SECP_384R1" "Lcom/example/cairn/cairn/ccnx/ValidationType;" (.ref eL)) :
    ownMet l Z (⟨"com/example/cairn/cairn/ccnx/ValidationType", "signs", "()Z"⟩ : MethodName) prog_10_method_7_code 1 (some .boolean) [] ({ frames := 0, cells := 0, slots := 0, locals := 0 } : Room) #[(.ref a1)] h0 (Q_own_signs Z a1 h0 n0 eR eK eL) := by
  refine ownBody (plainFor_of_name own_pn0) ?_
  intro p e s m below meth c T0 hx hby hml hret hlk hZ hown hnm X0 e0
  have N0 : Fr n0 [] := Fr.nil n0
  refine ownVia (fun _ k => castTop (own_ef1 m a1) k) ?_
  show ownFin _ _ _ _ _ (T0.setTop (mkF m 0 #[.val (.ref a1)] []))
  refine ownVia (fun _ k => XS.aloadN X0.here hx rfl (hb hby d1_0) rfl rfl k) ?_
  show ownFin _ _ _ _ _ (T0.setTop (mkF m 1 #[.val (.ref a1)] [(.ref a1)]))
  obtain ⟨T2, X2, e2, st2⟩ := getS2 X0 hx hZ hown (host := "") (Or.inl (hw _ (List.mem_of_getElem? (i := 9) rfl))) Via.refl e0 S_2 (g := (mkF m 1 #[.val (.ref a1)] [(.ref a1)])) rfl (hb hby d1_1)
  refine ownVia st2 ?_
  show ownFin _ _ _ _ _ (T2.setTop (mkF m 4 #[.val (.ref a1)] [(.ref eR), (.ref a1)]))
  by_cases hc3 : a1 = eR
  case pos =>
    refine ownVia (fun _ k => Jvm.RoadKit.acmp (g := (mkF m 4 #[.val (.ref a1)] [(.ref eR), (.ref a1)])) X2 hx rfl rfl rfl (pc0 := 4) (pc' := 21) (same := true) rfl (hb hby d1_4) rfl (decide_eq_true (congrArg Value.ref hc3)) (by decide) (by decide) k) ?_
    show ownFin _ _ _ _ _ (T2.setTop (mkF m 21 #[.val (.ref a1)] []))
    refine ownVia (fun _ k => XS.iconst X2.here hx rfl (hb hby d1_21) k) ?_
    show ownFin _ _ _ _ _ (T2.setTop (mkF m 22 #[.val (.ref a1)] [(.int (1 : Int32))]))
    refine ownVia (fun _ k => XS.goto X2.here hx rfl (pc0 := 22) (pc' := 26) rfl (hb hby d1_22) (by decide) (by decide) k) ?_
    show ownFin _ _ _ _ _ (T2.setTop (mkF m 26 #[.val (.ref a1)] [(.int (1 : Int32))]))
    refine ownRetZ X2 hx hlk hret (hb hby d1_26) (by decide) (by decide) (Or.inr rfl) ?_
    show (Q_own_signs Z a1 h0 n0 eR eK eL) (some (.int (1 : Int32))) T2.heap _
    rw [e2]
    exact ⟨by rw [own_sg1 (Or.inl hc3)], N0, rfl⟩
  case neg =>
    refine ownVia (fun _ k => Jvm.RoadKit.acmp (g := (mkF m 4 #[.val (.ref a1)] [(.ref eR), (.ref a1)])) X2 hx rfl rfl rfl (pc0 := 4) (pc' := 7) (same := false) rfl (hb hby d1_4) rfl (decide_eq_false (own_ref_ne hc3)) (by decide) (by decide) k) ?_
    show ownFin _ _ _ _ _ (T2.setTop (mkF m 7 #[.val (.ref a1)] []))
    refine ownVia (fun _ k => XS.aloadN X2.here hx rfl (hb hby d1_7) rfl rfl k) ?_
    show ownFin _ _ _ _ _ (T2.setTop (mkF m 8 #[.val (.ref a1)] [(.ref a1)]))
    obtain ⟨T4, X4, e4, st4⟩ := getS2 X2 hx hZ hown (host := "") (Or.inl (hw _ (List.mem_of_getElem? (i := 11) rfl))) Via.refl e2 S_3 (g := (mkF m 8 #[.val (.ref a1)] [(.ref a1)])) rfl (hb hby d1_8)
    refine ownVia st4 ?_
    show ownFin _ _ _ _ _ (T4.setTop (mkF m 11 #[.val (.ref a1)] [(.ref eK), (.ref a1)]))
    by_cases hc5 : a1 = eK
    case pos =>
      refine ownVia (fun _ k => Jvm.RoadKit.acmp (g := (mkF m 11 #[.val (.ref a1)] [(.ref eK), (.ref a1)])) X4 hx rfl rfl rfl (pc0 := 11) (pc' := 21) (same := true) rfl (hb hby d1_11) rfl (decide_eq_true (congrArg Value.ref hc5)) (by decide) (by decide) k) ?_
      show ownFin _ _ _ _ _ (T4.setTop (mkF m 21 #[.val (.ref a1)] []))
      refine ownVia (fun _ k => XS.iconst X4.here hx rfl (hb hby d1_21) k) ?_
      show ownFin _ _ _ _ _ (T4.setTop (mkF m 22 #[.val (.ref a1)] [(.int (1 : Int32))]))
      refine ownVia (fun _ k => XS.goto X4.here hx rfl (pc0 := 22) (pc' := 26) rfl (hb hby d1_22) (by decide) (by decide) k) ?_
      show ownFin _ _ _ _ _ (T4.setTop (mkF m 26 #[.val (.ref a1)] [(.int (1 : Int32))]))
      refine ownRetZ X4 hx hlk hret (hb hby d1_26) (by decide) (by decide) (Or.inr rfl) ?_
      show (Q_own_signs Z a1 h0 n0 eR eK eL) (some (.int (1 : Int32))) T4.heap _
      rw [e4]
      exact ⟨by rw [own_sg1 (Or.inr (Or.inl hc5))], N0, rfl⟩
    case neg =>
      refine ownVia (fun _ k => Jvm.RoadKit.acmp (g := (mkF m 11 #[.val (.ref a1)] [(.ref eK), (.ref a1)])) X4 hx rfl rfl rfl (pc0 := 11) (pc' := 14) (same := false) rfl (hb hby d1_11) rfl (decide_eq_false (own_ref_ne hc5)) (by decide) (by decide) k) ?_
      show ownFin _ _ _ _ _ (T4.setTop (mkF m 14 #[.val (.ref a1)] []))
      refine ownVia (fun _ k => XS.aloadN X4.here hx rfl (hb hby d1_14) rfl rfl k) ?_
      show ownFin _ _ _ _ _ (T4.setTop (mkF m 15 #[.val (.ref a1)] [(.ref a1)]))
      obtain ⟨T6, X6, e6, st6⟩ := getS2 X4 hx hZ hown (host := "") (Or.inl (hw _ (List.mem_of_getElem? (i := 13) rfl))) Via.refl e4 S_4 (g := (mkF m 15 #[.val (.ref a1)] [(.ref a1)])) rfl (hb hby d1_15)
      refine ownVia st6 ?_
      show ownFin _ _ _ _ _ (T6.setTop (mkF m 18 #[.val (.ref a1)] [(.ref eL), (.ref a1)]))
      by_cases hc7 : a1 = eL
      case pos =>
        refine ownVia (fun _ k => Jvm.RoadKit.acmp (g := (mkF m 18 #[.val (.ref a1)] [(.ref eL), (.ref a1)])) X6 hx rfl rfl rfl (pc0 := 18) (pc' := 21) (same := true) rfl (hb hby d1_18) rfl (decide_eq_true (congrArg Value.ref hc7)) (by decide) (by decide) k) ?_
        show ownFin _ _ _ _ _ (T6.setTop (mkF m 21 #[.val (.ref a1)] []))
        refine ownVia (fun _ k => XS.iconst X6.here hx rfl (hb hby d1_21) k) ?_
        show ownFin _ _ _ _ _ (T6.setTop (mkF m 22 #[.val (.ref a1)] [(.int (1 : Int32))]))
        refine ownVia (fun _ k => XS.goto X6.here hx rfl (pc0 := 22) (pc' := 26) rfl (hb hby d1_22) (by decide) (by decide) k) ?_
        show ownFin _ _ _ _ _ (T6.setTop (mkF m 26 #[.val (.ref a1)] [(.int (1 : Int32))]))
        refine ownRetZ X6 hx hlk hret (hb hby d1_26) (by decide) (by decide) (Or.inr rfl) ?_
        show (Q_own_signs Z a1 h0 n0 eR eK eL) (some (.int (1 : Int32))) T6.heap _
        rw [e6]
        exact ⟨by rw [own_sg1 (Or.inr (Or.inr hc7))], N0, rfl⟩
      case neg =>
        refine ownVia (fun _ k => Jvm.RoadKit.acmp (g := (mkF m 18 #[.val (.ref a1)] [(.ref eL), (.ref a1)])) X6 hx rfl rfl rfl (pc0 := 18) (pc' := 25) (same := false) rfl (hb hby d1_18) rfl (decide_eq_false (own_ref_ne hc7)) (by decide) (by decide) k) ?_
        show ownFin _ _ _ _ _ (T6.setTop (mkF m 25 #[.val (.ref a1)] []))
        refine ownVia (fun _ k => XS.iconst X6.here hx rfl (hb hby d1_25) k) ?_
        show ownFin _ _ _ _ _ (T6.setTop (mkF m 26 #[.val (.ref a1)] [(.int (0 : Int32))]))
        refine ownRetZ X6 hx hlk hret (hb hby d1_26) (by decide) (by decide) (Or.inl rfl) ?_
        show (Q_own_signs Z a1 h0 n0 eR eK eL) (some (.int (0 : Int32))) T6.heap _
        rw [e6]
        exact ⟨by rw [own_sg0 (fun z => z.elim hc3 (fun z => z.elim hc5 hc7))], N0, rfl⟩
theorem d2_0 : decode prog_10_method_4_code 0 = .ok (.aload_n 0, 1) := by decide +kernel
theorem d2_1 : decode prog_10_method_4_code 1 = .ok (.getfield 38, 3) := by decide +kernel
theorem d2_4 : decode prog_10_method_4_code 4 = .ok (.ireturn, 1) := by decide +kernel
theorem own_ef8 (m : MethodId) (a1 : Addr) : entryFrame m #[(.ref a1)] 1 = mkF m 0 #[.val (.ref a1)] [] := by first | (simp [entryFrame, mkF, argsToLocals, Value.category]; done) | rfl
def Q_own_code (Z : State) (a1 : Addr) (h0 : Heap) (n0 : Nat) (k : Int32) : Option Value → Heap → List Loc → Prop := fun v h L => v = some (.int k) ∧ Fr n0 L ∧ h = h0
set_option maxRecDepth 65536 in
set_option maxHeartbeats 40000000 in
theorem own_code (l : Launch) (Z : State) (a0 : Array Value) (hw : ∀ d ∈ tables_1, d.before a0 Z = true)  (a1 : Addr) (h0 : Heap) (n0 : Nat) (k : Int32) (Z0 : n0 ≤ h0.size) (F : Fld Z h0 a1 "com/example/cairn/cairn/ccnx/ValidationType" "code" "I" (.int k)) :
    ownMet l Z (⟨"com/example/cairn/cairn/ccnx/ValidationType", "code", "()I"⟩ : MethodName) prog_10_method_4_code 1 (some .int) [] ({ frames := 0, cells := 0, slots := 0, locals := 0 } : Room) #[(.ref a1)] h0 (Q_own_code Z a1 h0 n0 k) := by
  refine ownBody (plainFor_of_name own_pn0) ?_
  intro p e s m below meth c T0 hx hby hml hret hlk hZ hown hnm X0 e0
  have N0 : Fr n0 [] := Fr.nil n0
  refine ownVia (fun _ k => castTop (own_ef8 m a1) k) ?_
  show ownFin _ _ _ _ _ (T0.setTop (mkF m 0 #[.val (.ref a1)] []))
  refine ownVia (fun _ k => XS.aloadN X0.here hx rfl (hb hby d2_0) rfl rfl k) ?_
  show ownFin _ _ _ _ _ (T0.setTop (mkF m 1 #[.val (.ref a1)] [(.ref a1)]))
  obtain ⟨T9, X9, e9, st9⟩ := getF X0 hx hZ hown (host := "") (Or.inl (hw _ (List.mem_of_getElem? (i := 20) rfl))) Via.refl e0 F (g := (mkF m 1 #[.val (.ref a1)] [(.ref a1)])) rfl rfl (hb hby d2_1)
  refine ownVia st9 ?_
  show ownFin _ _ _ _ _ (T9.setTop (mkF m 4 #[.val (.ref a1)] [(.int k)]))
  refine ownRetI X9 hx hlk hret (hb hby d2_4) (by decide) (by decide) ?_
  show (Q_own_code Z a1 h0 n0 k) (some (.int k)) T9.heap _
  rw [e9]
  exact ⟨rfl, N0, rfl⟩
theorem d3_0 : decode prog_10_method_6_code 0 = .ok (.aload_n 0, 1) := by decide +kernel
theorem d3_1 : decode prog_10_method_6_code 1 = .ok (.getstatic 3, 3) := by decide +kernel
theorem d3_4 : decode prog_10_method_6_code 4 = .ok (.if_acmp .eq 7, 3) := by decide +kernel
theorem d3_7 : decode prog_10_method_6_code 7 = .ok (.iconst 1, 1) := by decide +kernel
theorem d3_8 : decode prog_10_method_6_code 8 = .ok (.goto 4, 3) := by decide +kernel
theorem d3_11 : decode prog_10_method_6_code 11 = .ok (.iconst 0, 1) := by decide +kernel
theorem d3_12 : decode prog_10_method_6_code 12 = .ok (.ireturn, 1) := by decide +kernel
theorem own_ef10 (m : MethodId) (a1 : Addr) : entryFrame m #[(.ref a1)] 1 = mkF m 0 #[.val (.ref a1)] [] := by first | (simp [entryFrame, mkF, argsToLocals, Value.category]; done) | rfl
def Q_own_hdd (Z : State) (a1 : Addr) (h0 : Heap) (n0 : Nat) (eC : Addr) : Option Value → Heap → List Loc → Prop := fun v h L => v = some (.int (own_hd a1 eC)) ∧ Fr n0 L ∧ h = h0
set_option maxRecDepth 65536 in
set_option maxHeartbeats 40000000 in
theorem own_hdd (l : Launch) (Z : State) (a0 : Array Value) (hw : ∀ d ∈ tables_1, d.before a0 Z = true)  (a1 : Addr) (h0 : Heap) (n0 : Nat) (eC : Addr) (Z0 : n0 ≤ h0.size) (S_0 : Sta Z h0 "com/example/cairn/cairn/ccnx/ValidationType" "CRC32C" "Lcom/example/cairn/cairn/ccnx/ValidationType;" (.ref eC)) :
    ownMet l Z (⟨"com/example/cairn/cairn/ccnx/ValidationType", "hasDependentData", "()Z"⟩ : MethodName) prog_10_method_6_code 1 (some .boolean) [] ({ frames := 0, cells := 0, slots := 0, locals := 0 } : Room) #[(.ref a1)] h0 (Q_own_hdd Z a1 h0 n0 eC) := by
  refine ownBody (plainFor_of_name own_pn0) ?_
  intro p e s m below meth c T0 hx hby hml hret hlk hZ hown hnm X0 e0
  have N0 : Fr n0 [] := Fr.nil n0
  refine ownVia (fun _ k => castTop (own_ef10 m a1) k) ?_
  show ownFin _ _ _ _ _ (T0.setTop (mkF m 0 #[.val (.ref a1)] []))
  refine ownVia (fun _ k => XS.aloadN X0.here hx rfl (hb hby d3_0) rfl rfl k) ?_
  show ownFin _ _ _ _ _ (T0.setTop (mkF m 1 #[.val (.ref a1)] [(.ref a1)]))
  obtain ⟨T11, X11, e11, st11⟩ := getS2 X0 hx hZ hown (host := "") (Or.inl (hw _ (List.mem_of_getElem? (i := 28) rfl))) Via.refl e0 S_0 (g := (mkF m 1 #[.val (.ref a1)] [(.ref a1)])) rfl (hb hby d3_1)
  refine ownVia st11 ?_
  show ownFin _ _ _ _ _ (T11.setTop (mkF m 4 #[.val (.ref a1)] [(.ref eC), (.ref a1)]))
  by_cases hc12 : a1 = eC
  case pos =>
    refine ownVia (fun _ k => Jvm.RoadKit.acmp (g := (mkF m 4 #[.val (.ref a1)] [(.ref eC), (.ref a1)])) X11 hx rfl rfl rfl (pc0 := 4) (pc' := 11) (same := true) rfl (hb hby d3_4) rfl (decide_eq_true (congrArg Value.ref hc12)) (by decide) (by decide) k) ?_
    show ownFin _ _ _ _ _ (T11.setTop (mkF m 11 #[.val (.ref a1)] []))
    refine ownVia (fun _ k => XS.iconst X11.here hx rfl (hb hby d3_11) k) ?_
    show ownFin _ _ _ _ _ (T11.setTop (mkF m 12 #[.val (.ref a1)] [(.int (0 : Int32))]))
    refine ownRetZ X11 hx hlk hret (hb hby d3_12) (by decide) (by decide) (Or.inl rfl) ?_
    show (Q_own_hdd Z a1 h0 n0 eC) (some (.int (0 : Int32))) T11.heap _
    rw [e11]
    exact ⟨by rw [own_hd0 hc12], N0, rfl⟩
  case neg =>
    refine ownVia (fun _ k => Jvm.RoadKit.acmp (g := (mkF m 4 #[.val (.ref a1)] [(.ref eC), (.ref a1)])) X11 hx rfl rfl rfl (pc0 := 4) (pc' := 7) (same := false) rfl (hb hby d3_4) rfl (decide_eq_false (own_ref_ne hc12)) (by decide) (by decide) k) ?_
    show ownFin _ _ _ _ _ (T11.setTop (mkF m 7 #[.val (.ref a1)] []))
    refine ownVia (fun _ k => XS.iconst X11.here hx rfl (hb hby d3_7) k) ?_
    show ownFin _ _ _ _ _ (T11.setTop (mkF m 8 #[.val (.ref a1)] [(.int (1 : Int32))]))
    refine ownVia (fun _ k => XS.goto X11.here hx rfl (pc0 := 8) (pc' := 12) rfl (hb hby d3_8) (by decide) (by decide) k) ?_
    show ownFin _ _ _ _ _ (T11.setTop (mkF m 12 #[.val (.ref a1)] [(.int (1 : Int32))]))
    refine ownRetZ X11 hx hlk hret (hb hby d3_12) (by decide) (by decide) (Or.inr rfl) ?_
    show (Q_own_hdd Z a1 h0 n0 eC) (some (.int (1 : Int32))) T11.heap _
    rw [e11]
    exact ⟨by rw [own_hd1 hc12], N0, rfl⟩
theorem own_pn1 : plainName "com/example/cairn/cairn/ccnx/ValidationTypeSignsPinLaw" = true := by first | (simp [plainName, overriddenIn]; done) | decide +kernel
theorem own_ef13 (m : MethodId) (p1 : Int32) : entryFrame m #[(.int p1)] maxLocals = mkF m 0 #[.val (.int p1), .unset, .unset, .unset, .unset] [] := by first | (simp [entryFrame, mkF, argsToLocals, Value.category, maxLocals]; done) | rfl
def Q_own_law (Z : State) (p1 : Int32) (h0 : Heap) (n0 : Nat) (eC eH eR eK eL : Addr) : Option Value → Heap → List Loc → Prop := fun v h L => v = some (.int 1) ∧ Fr n0 L
theorem own_pd0 : parseMethodDescriptor "()Z" = some ⟨[], some .boolean⟩ := by decide +kernel
theorem own_pd1 : parseMethodDescriptor "()I" = some ⟨[], some .int⟩ := by decide +kernel
set_option maxRecDepth 65536 in
set_option maxHeartbeats 40000000 in
theorem own_law (l : Launch) (Z : State) (a0 : Array Value) (hw : ∀ d ∈ tables_1, d.before a0 Z = true) (ws : List Jvm.Cond) (p1 : Int32) (h0 : Heap) (n0 : Nat) (eC eH eR eK eL : Addr) (Z0 : n0 ≤ h0.size) (S_0 : Sta Z h0 "com/example/cairn/cairn/ccnx/ValidationType" "CRC32C" "Lcom/example/cairn/cairn/ccnx/ValidationType;" (.ref eC)) (E_eC : Exa Z h0 eC "com/example/cairn/cairn/ccnx/ValidationType") (C_0 : Fld Z h0 eC "com/example/cairn/cairn/ccnx/ValidationType" "code" "I" (.int (2 : Int32))) (S_1 : Sta Z h0 "com/example/cairn/cairn/ccnx/ValidationType" "HMAC_SHA256" "Lcom/example/cairn/cairn/ccnx/ValidationType;" (.ref eH)) (E_eH : Exa Z h0 eH "com/example/cairn/cairn/ccnx/ValidationType") (C_1 : Fld Z h0 eH "com/example/cairn/cairn/ccnx/ValidationType" "code" "I" (.int (4 : Int32))) (S_2 : Sta Z h0 "com/example/cairn/cairn/ccnx/ValidationType" "RSA_SHA256" "Lcom/example/cairn/cairn/ccnx/ValidationType;" (.ref eR)) (E_eR : Exa Z h0 eR "com/example/cairn/cairn/ccnx/ValidationType") (C_2 : Fld Z h0 eR "com/example/cairn/cairn/ccnx/ValidationType" "code" "I" (.int (5 : Int32))) (S_3 : Sta Z h0 "com/example/cairn/cairn/ccnx/ValidationType" "EC_SECP_256K1" "Lcom/example/cairn/cairn/ccnx/ValidationType;" (.ref eK)) (E_eK : Exa Z h0 eK "com/example/cairn/cairn/ccnx/ValidationType") (C_3 : Fld Z h0 eK "com/example/cairn/cairn/ccnx/ValidationType" "code" "I" (.int (6 : Int32))) (S_4 : Sta Z h0 "com/example/cairn/cairn/ccnx/ValidationType" "EC_SECP_384R1" "Lcom/example/cairn/cairn/ccnx/ValidationType;" (.ref eL)) (E_eL : Exa Z h0 eL "com/example/cairn/cairn/ccnx/ValidationType") (C_4 : Fld Z h0 eL "com/example/cairn/cairn/ccnx/ValidationType" "code" "I" (.int (7 : Int32))) :
    ownMet l Z x code maxLocals ret ws room_1 #[(.int p1)] h0 (Q_own_law Z p1 h0 n0 eC eH eR eK eL) := by
  refine ownBody (plainFor_of_name own_pn1) ?_
  intro p e s m below meth c T0 hx hby hml hret hlk hZ hown hnm X0 e0
  have N0 : Fr n0 [] := Fr.nil n0
  have hown : s.vm.findClass "com/example/cairn/cairn/ccnx/ValidationTypeSignsPinLaw" = some m.cls := hown
  refine ownVia (fun _ k => castTop (own_ef13 m p1) k) ?_
  show ownFin _ _ _ _ _ (T0.setTop (mkF m 0 #[.val (.int p1), .unset, .unset, .unset, .unset] []))
  have ne_0_1 : eC ≠ eH := Fld.ne C_0 C_1 (by decide)
  have ne_0_2 : eC ≠ eR := Fld.ne C_0 C_2 (by decide)
  have ne_0_3 : eC ≠ eK := Fld.ne C_0 C_3 (by decide)
  have ne_0_4 : eC ≠ eL := Fld.ne C_0 C_4 (by decide)
  have ne_1_0 : eH ≠ eC := Fld.ne C_1 C_0 (by decide)
  have ne_1_2 : eH ≠ eR := Fld.ne C_1 C_2 (by decide)
  have ne_1_3 : eH ≠ eK := Fld.ne C_1 C_3 (by decide)
  have ne_1_4 : eH ≠ eL := Fld.ne C_1 C_4 (by decide)
  have ne_2_0 : eR ≠ eC := Fld.ne C_2 C_0 (by decide)
  have ne_2_1 : eR ≠ eH := Fld.ne C_2 C_1 (by decide)
  have ne_2_3 : eR ≠ eK := Fld.ne C_2 C_3 (by decide)
  have ne_2_4 : eR ≠ eL := Fld.ne C_2 C_4 (by decide)
  have ne_3_0 : eK ≠ eC := Fld.ne C_3 C_0 (by decide)
  have ne_3_1 : eK ≠ eH := Fld.ne C_3 C_1 (by decide)
  have ne_3_2 : eK ≠ eR := Fld.ne C_3 C_2 (by decide)
  have ne_3_4 : eK ≠ eL := Fld.ne C_3 C_4 (by decide)
  have ne_4_0 : eL ≠ eC := Fld.ne C_4 C_0 (by decide)
  have ne_4_1 : eL ≠ eH := Fld.ne C_4 C_1 (by decide)
  have ne_4_2 : eL ≠ eR := Fld.ne C_4 C_2 (by decide)
  have ne_4_3 : eL ≠ eK := Fld.ne C_4 C_3 (by decide)
  have hln := own_len p1
  refine ownVia (fun _ k => XS.iloadN X0.here hx rfl (hb hby at_0) rfl k) ?_
  show ownFin _ _ _ _ _ (T0.setTop (mkF m 1 #[.val (.int p1), .unset, .unset, .unset, .unset] [(.int p1)]))
  refine ownVia (fun _ k => X0.ldcInt hx hown (mvT hZ (hw _ (List.mem_of_getElem? (i := 0) rfl))) (g := (mkF m 1 #[.val (.int p1), .unset, .unset, .unset, .unset] [(.int p1)])) rfl (hb hby at_1) _ k) ?_
  show ownFin _ _ _ _ _ (T0.setTop (mkF m 3 #[.val (.int p1), .unset, .unset, .unset, .unset] [(.int (2147483647 : Int32)), (.int p1)]))
  refine ownVia (fun _ k => XS.iand X0.here hx rfl (hb hby at_3) rfl k) ?_
  show ownFin _ _ _ _ _ (T0.setTop (mkF m 4 #[.val (.int p1), .unset, .unset, .unset, .unset] [(.int (p1 &&& (2147483647 : Int32)))]))
  refine ownVia (fun _ k => XS.iconst X0.here hx rfl (hb hby at_4) k) ?_
  show ownFin _ _ _ _ _ (T0.setTop (mkF m 5 #[.val (.int p1), .unset, .unset, .unset, .unset] [(.int (5 : Int32)), (.int (p1 &&& (2147483647 : Int32)))]))
  refine ownVia (fun _ k => iremM X0 hx rfl (hb hby at_5) rfl (by decide) k) ?_
  show ownFin _ _ _ _ _ (T0.setTop (mkF m 6 #[.val (.int p1), .unset, .unset, .unset, .unset] [(.int ((p1 &&& (2147483647 : Int32)) % (5 : Int32)))]))
  generalize h_nv : ((p1 &&& (2147483647 : Int32)) % (5 : Int32)) = nv
  show ownFin _ _ _ _ _ (T0.setTop (mkF m 6 #[.val (.int p1), .unset, .unset, .unset, .unset] [(.int nv)]))
  refine ownVia (fun _ k => XS.istoreN X0.here hx rfl (hb hby at_6) rfl (l' := #[.val (.int p1), .val (.int nv), .unset, .unset, .unset]) rfl k) ?_
  show ownFin _ _ _ _ _ (T0.setTop (mkF m 7 #[.val (.int p1), .val (.int nv), .unset, .unset, .unset] []))
  refine ownVia (fun _ k => XS.iloadN X0.here hx rfl (hb hby at_7) rfl k) ?_
  show ownFin _ _ _ _ _ (T0.setTop (mkF m 8 #[.val (.int p1), .val (.int nv), .unset, .unset, .unset] [(.int nv)]))
  by_cases hc14 : nv = (0 : Int32)
  case pos =>
    have hc14I : nv.toInt = 0 := (own_eqi rfl (by decide)).mp hc14
    refine ownVia (fun _ k => XS.ifNo X0.here hx rfl (hb hby at_8) rfl ((if0 _ _).trans (teq hc14).2) k) ?_
    show ownFin _ _ _ _ _ (T0.setTop (mkF m 11 #[.val (.int p1), .val (.int nv), .unset, .unset, .unset] []))
    obtain ⟨T15, X15, e15, st15⟩ := getS2 X0 hx hZ hown (host := "") (Or.inl (hw _ (List.mem_of_getElem? (i := 1) rfl))) Via.refl e0 S_0 (g := (mkF m 11 #[.val (.int p1), .val (.int nv), .unset, .unset, .unset] [])) rfl (hb hby at_11)
    refine ownVia st15 ?_
    show ownFin _ _ _ _ _ (T15.setTop (mkF m 14 #[.val (.int p1), .val (.int nv), .unset, .unset, .unset] [(.ref eC)]))
    refine ownVia (fun _ k => XS.astoreN X15.here hx rfl (hb hby at_14) rfl rfl (l' := #[.val (.int p1), .val (.int nv), .val (.ref eC), .unset, .unset]) rfl k) ?_
    show ownFin _ _ _ _ _ (T15.setTop (mkF m 15 #[.val (.int p1), .val (.int nv), .val (.ref eC), .unset, .unset] []))
    refine ownVia (fun _ k => XS.iconst X15.here hx rfl (hb hby at_15) k) ?_
    show ownFin _ _ _ _ _ (T15.setTop (mkF m 16 #[.val (.int p1), .val (.int nv), .val (.ref eC), .unset, .unset] [(.int (0 : Int32))]))
    refine ownVia (fun _ k => XS.istoreN X15.here hx rfl (hb hby at_16) rfl (l' := #[.val (.int p1), .val (.int nv), .val (.ref eC), .val (.int (0 : Int32)), .unset]) rfl k) ?_
    show ownFin _ _ _ _ _ (T15.setTop (mkF m 17 #[.val (.int p1), .val (.int nv), .val (.ref eC), .val (.int (0 : Int32)), .unset] []))
    refine ownVia (fun _ k => XS.goto X15.here hx rfl (pc0 := 17) (pc' := 68) rfl (hb hby at_17) (by decide) (by decide) k) ?_
    show ownFin _ _ _ _ _ (T15.setTop (mkF m 68 #[.val (.int p1), .val (.int nv), .val (.ref eC), .val (.int (0 : Int32)), .unset] []))
    refine ownVia (fun _ k => XS.aloadN X15.here hx rfl (hb hby at_68) rfl rfl k) ?_
    show ownFin _ _ _ _ _ (T15.setTop (mkF m 69 #[.val (.int p1), .val (.int nv), .val (.ref eC), .val (.int (0 : Int32)), .unset] [(.ref eC)]))
    refine ownCallV X15 hx hZ hown (hw _ (List.mem_of_getElem? (i := 4) rfl)) (hw _ (List.mem_of_getElem? (i := 5) rfl)) (hw _ (List.mem_of_getElem? (i := 7) rfl)) (hw _ (List.mem_of_getElem? (i := 7) rfl)) (hw _ (List.mem_of_getElem? (i := 6) rfl)) (hw _ (List.mem_of_getElem? (i := 2) rfl)) (hw _ (List.mem_of_getElem? (i := 8) rfl)) (by decide) e15 E_eC (own_signs l Z a0 hw eC h0 n0 eR eK eL Z0 S_2 S_3 S_4) (by rw [hml]; rfl) [] [] (lenOf own_pd0 rfl) rfl rfl 0 rfl (hb hby at_69) (by decide) (by decide) (by decide) (by decide) ?_
    intro v16 T16 L16 X16 hq16
    obtain ⟨rfl, N16q, eq16⟩ := hq16
    have N16 := Fr.app N0 N16q
    have e16 : T16.heap = h0 := eq16
    show ownFin _ _ _ _ _ (T16.setTop (mkF m 72 #[.val (.int p1), .val (.int nv), .val (.ref eC), .val (.int (0 : Int32)), .unset] [(.int (own_sg eC eR eK eL))]))
    rw [own_sg0 (fun z => z.elim ne_0_2 (fun z => z.elim ne_0_3 ne_0_4))]
    show ownFin _ _ _ _ _ (T16.setTop (mkF m 72 #[.val (.int p1), .val (.int nv), .val (.ref eC), .val (.int (0 : Int32)), .unset] [(.int (0 : Int32))]))
    refine ownVia (fun _ k => XS.istore X16.here hx rfl (hb hby at_72) rfl (l' := #[.val (.int p1), .val (.int nv), .val (.ref eC), .val (.int (0 : Int32)), .val (.int (0 : Int32))]) rfl k) ?_
    show ownFin _ _ _ _ _ (T16.setTop (mkF m 74 #[.val (.int p1), .val (.int nv), .val (.ref eC), .val (.int (0 : Int32)), .val (.int (0 : Int32))] []))
    refine ownVia (fun _ k => XS.iload X16.here hx rfl (hb hby at_74) rfl k) ?_
    show ownFin _ _ _ _ _ (T16.setTop (mkF m 76 #[.val (.int p1), .val (.int nv), .val (.ref eC), .val (.int (0 : Int32)), .val (.int (0 : Int32))] [(.int (0 : Int32))]))
    refine ownVia (fun _ k => XS.iloadN X16.here hx rfl (hb hby at_76) rfl k) ?_
    show ownFin _ _ _ _ _ (T16.setTop (mkF m 77 #[.val (.int p1), .val (.int nv), .val (.ref eC), .val (.int (0 : Int32)), .val (.int (0 : Int32))] [(.int (0 : Int32)), (.int (0 : Int32))]))
    refine ownVia (fun _ k => XS.icmpNo X16.here hx rfl (hb hby at_77) rfl (teq rfl).2 k) ?_
    show ownFin _ _ _ _ _ (T16.setTop (mkF m 80 #[.val (.int p1), .val (.int nv), .val (.ref eC), .val (.int (0 : Int32)), .val (.int (0 : Int32))] []))
    refine ownVia (fun _ k => XS.iload X16.here hx rfl (hb hby at_80) rfl k) ?_
    show ownFin _ _ _ _ _ (T16.setTop (mkF m 82 #[.val (.int p1), .val (.int nv), .val (.ref eC), .val (.int (0 : Int32)), .val (.int (0 : Int32))] [(.int (0 : Int32))]))
    refine ownVia (fun _ k => XS.aloadN X16.here hx rfl (hb hby at_82) rfl rfl k) ?_
    show ownFin _ _ _ _ _ (T16.setTop (mkF m 83 #[.val (.int p1), .val (.int nv), .val (.ref eC), .val (.int (0 : Int32)), .val (.int (0 : Int32))] [(.ref eC), (.int (0 : Int32))]))
    refine ownCallV X16 hx hZ hown (hw _ (List.mem_of_getElem? (i := 15) rfl)) (hw _ (List.mem_of_getElem? (i := 16) rfl)) (hw _ (List.mem_of_getElem? (i := 18) rfl)) (hw _ (List.mem_of_getElem? (i := 18) rfl)) (hw _ (List.mem_of_getElem? (i := 17) rfl)) (hw _ (List.mem_of_getElem? (i := 2) rfl)) (hw _ (List.mem_of_getElem? (i := 19) rfl)) (by decide) e16 E_eC (own_code l Z a0 hw eC h0 n0 (2 : Int32) Z0 C_0) (by rw [hml]; rfl) [] [(.int (0 : Int32))] (lenOf own_pd1 rfl) rfl rfl 1 rfl (hb hby at_83) (by decide) (by decide) (by decide) (by decide) ?_
    intro v17 T17 L17 X17 hq17
    obtain ⟨rfl, N17q, eq17⟩ := hq17
    have N17 := Fr.app N16 N17q
    have e17 : T17.heap = h0 := eq17
    show ownFin _ _ _ _ _ (T17.setTop (mkF m 86 #[.val (.int p1), .val (.int nv), .val (.ref eC), .val (.int (0 : Int32)), .val (.int (0 : Int32))] [(.int (2 : Int32)), (.int (0 : Int32))]))
    refine ownVia (fun _ k => XS.iconst X17.here hx rfl (hb hby at_86) k) ?_
    show ownFin _ _ _ _ _ (T17.setTop (mkF m 87 #[.val (.int p1), .val (.int nv), .val (.ref eC), .val (.int (0 : Int32)), .val (.int (0 : Int32))] [(.int (5 : Int32)), (.int (2 : Int32)), (.int (0 : Int32))]))
    refine ownVia (fun _ k => XS.icmpYes X17.here hx rfl (pc0 := 87) (pc' := 94) rfl (hb hby at_87) rfl (tlt (by decide)).1 (by decide) (by decide) k) ?_
    show ownFin _ _ _ _ _ (T17.setTop (mkF m 94 #[.val (.int p1), .val (.int nv), .val (.ref eC), .val (.int (0 : Int32)), .val (.int (0 : Int32))] [(.int (0 : Int32))]))
    refine ownVia (fun _ k => XS.iconst X17.here hx rfl (hb hby at_94) k) ?_
    show ownFin _ _ _ _ _ (T17.setTop (mkF m 95 #[.val (.int p1), .val (.int nv), .val (.ref eC), .val (.int (0 : Int32)), .val (.int (0 : Int32))] [(.int (0 : Int32)), (.int (0 : Int32))]))
    refine ownVia (fun _ k => XS.icmpNo X17.here hx rfl (hb hby at_95) rfl (teq rfl).2 k) ?_
    show ownFin _ _ _ _ _ (T17.setTop (mkF m 98 #[.val (.int p1), .val (.int nv), .val (.ref eC), .val (.int (0 : Int32)), .val (.int (0 : Int32))] []))
    refine ownVia (fun _ k => XS.iload X17.here hx rfl (hb hby at_98) rfl k) ?_
    show ownFin _ _ _ _ _ (T17.setTop (mkF m 100 #[.val (.int p1), .val (.int nv), .val (.ref eC), .val (.int (0 : Int32)), .val (.int (0 : Int32))] [(.int (0 : Int32))]))
    refine ownVia (fun _ k => XS.ifYes X17.here hx rfl (pc0 := 100) (pc' := 110) rfl (hb hby at_100) rfl ((if0 _ _).trans (teq rfl).1) (by decide) (by decide) k) ?_
    show ownFin _ _ _ _ _ (T17.setTop (mkF m 110 #[.val (.int p1), .val (.int nv), .val (.ref eC), .val (.int (0 : Int32)), .val (.int (0 : Int32))] []))
    refine ownVia (fun _ k => XS.iconst X17.here hx rfl (hb hby at_110) k) ?_
    show ownFin _ _ _ _ _ (T17.setTop (mkF m 111 #[.val (.int p1), .val (.int nv), .val (.ref eC), .val (.int (0 : Int32)), .val (.int (0 : Int32))] [(.int (1 : Int32))]))
    refine ownVia (fun _ k => XS.goto X17.here hx rfl (pc0 := 111) (pc' := 115) rfl (hb hby at_111) (by decide) (by decide) k) ?_
    show ownFin _ _ _ _ _ (T17.setTop (mkF m 115 #[.val (.int p1), .val (.int nv), .val (.ref eC), .val (.int (0 : Int32)), .val (.int (0 : Int32))] [(.int (1 : Int32))]))
    refine ownRetZ X17 hx hlk hret (hb hby at_115) (by decide) (by decide) (Or.inr rfl) ?_
    show (Q_own_law Z p1 h0 n0 eC eH eR eK eL) (some (.int (1 : Int32))) T17.heap _
    rw [e17]
    exact ⟨rfl, N17⟩
  case neg =>
    have hc14I : ¬ nv.toInt = 0 := fun q => hc14 ((own_eqi rfl (by decide)).mpr q)
    refine ownVia (fun _ k => XS.ifYes X0.here hx rfl (pc0 := 8) (pc' := 20) rfl (hb hby at_8) rfl ((if0 _ _).trans (feq hc14).2) (by decide) (by decide) k) ?_
    show ownFin _ _ _ _ _ (T0.setTop (mkF m 20 #[.val (.int p1), .val (.int nv), .unset, .unset, .unset] []))
    refine ownVia (fun _ k => XS.iloadN X0.here hx rfl (hb hby at_20) rfl k) ?_
    show ownFin _ _ _ _ _ (T0.setTop (mkF m 21 #[.val (.int p1), .val (.int nv), .unset, .unset, .unset] [(.int nv)]))
    refine ownVia (fun _ k => XS.iconst X0.here hx rfl (hb hby at_21) k) ?_
    show ownFin _ _ _ _ _ (T0.setTop (mkF m 22 #[.val (.int p1), .val (.int nv), .unset, .unset, .unset] [(.int (1 : Int32)), (.int nv)]))
    by_cases hc18 : nv = (1 : Int32)
    case pos =>
      have hc18I : nv.toInt = 1 := (own_eqi rfl (by decide)).mp hc18
      refine ownVia (fun _ k => XS.icmpNo X0.here hx rfl (hb hby at_22) rfl (teq hc18).2 k) ?_
      show ownFin _ _ _ _ _ (T0.setTop (mkF m 25 #[.val (.int p1), .val (.int nv), .unset, .unset, .unset] []))
      obtain ⟨T19, X19, e19, st19⟩ := getS2 X0 hx hZ hown (host := "") (Or.inl (hw _ (List.mem_of_getElem? (i := 29) rfl))) Via.refl e0 S_1 (g := (mkF m 25 #[.val (.int p1), .val (.int nv), .unset, .unset, .unset] [])) rfl (hb hby at_25)
      refine ownVia st19 ?_
      show ownFin _ _ _ _ _ (T19.setTop (mkF m 28 #[.val (.int p1), .val (.int nv), .unset, .unset, .unset] [(.ref eH)]))
      refine ownVia (fun _ k => XS.astoreN X19.here hx rfl (hb hby at_28) rfl rfl (l' := #[.val (.int p1), .val (.int nv), .val (.ref eH), .unset, .unset]) rfl k) ?_
      show ownFin _ _ _ _ _ (T19.setTop (mkF m 29 #[.val (.int p1), .val (.int nv), .val (.ref eH), .unset, .unset] []))
      refine ownVia (fun _ k => XS.iconst X19.here hx rfl (hb hby at_29) k) ?_
      show ownFin _ _ _ _ _ (T19.setTop (mkF m 30 #[.val (.int p1), .val (.int nv), .val (.ref eH), .unset, .unset] [(.int (0 : Int32))]))
      refine ownVia (fun _ k => XS.istoreN X19.here hx rfl (hb hby at_30) rfl (l' := #[.val (.int p1), .val (.int nv), .val (.ref eH), .val (.int (0 : Int32)), .unset]) rfl k) ?_
      show ownFin _ _ _ _ _ (T19.setTop (mkF m 31 #[.val (.int p1), .val (.int nv), .val (.ref eH), .val (.int (0 : Int32)), .unset] []))
      refine ownVia (fun _ k => XS.goto X19.here hx rfl (pc0 := 31) (pc' := 68) rfl (hb hby at_31) (by decide) (by decide) k) ?_
      show ownFin _ _ _ _ _ (T19.setTop (mkF m 68 #[.val (.int p1), .val (.int nv), .val (.ref eH), .val (.int (0 : Int32)), .unset] []))
      refine ownVia (fun _ k => XS.aloadN X19.here hx rfl (hb hby at_68) rfl rfl k) ?_
      show ownFin _ _ _ _ _ (T19.setTop (mkF m 69 #[.val (.int p1), .val (.int nv), .val (.ref eH), .val (.int (0 : Int32)), .unset] [(.ref eH)]))
      refine ownCallV X19 hx hZ hown (hw _ (List.mem_of_getElem? (i := 4) rfl)) (hw _ (List.mem_of_getElem? (i := 5) rfl)) (hw _ (List.mem_of_getElem? (i := 7) rfl)) (hw _ (List.mem_of_getElem? (i := 7) rfl)) (hw _ (List.mem_of_getElem? (i := 6) rfl)) (hw _ (List.mem_of_getElem? (i := 2) rfl)) (hw _ (List.mem_of_getElem? (i := 8) rfl)) (by decide) e19 E_eH (own_signs l Z a0 hw eH h0 n0 eR eK eL Z0 S_2 S_3 S_4) (by rw [hml]; rfl) [] [] (lenOf own_pd0 rfl) rfl rfl 0 rfl (hb hby at_69) (by decide) (by decide) (by decide) (by decide) ?_
      intro v20 T20 L20 X20 hq20
      obtain ⟨rfl, N20q, eq20⟩ := hq20
      have N20 := Fr.app N0 N20q
      have e20 : T20.heap = h0 := eq20
      show ownFin _ _ _ _ _ (T20.setTop (mkF m 72 #[.val (.int p1), .val (.int nv), .val (.ref eH), .val (.int (0 : Int32)), .unset] [(.int (own_sg eH eR eK eL))]))
      rw [own_sg0 (fun z => z.elim ne_1_2 (fun z => z.elim ne_1_3 ne_1_4))]
      show ownFin _ _ _ _ _ (T20.setTop (mkF m 72 #[.val (.int p1), .val (.int nv), .val (.ref eH), .val (.int (0 : Int32)), .unset] [(.int (0 : Int32))]))
      refine ownVia (fun _ k => XS.istore X20.here hx rfl (hb hby at_72) rfl (l' := #[.val (.int p1), .val (.int nv), .val (.ref eH), .val (.int (0 : Int32)), .val (.int (0 : Int32))]) rfl k) ?_
      show ownFin _ _ _ _ _ (T20.setTop (mkF m 74 #[.val (.int p1), .val (.int nv), .val (.ref eH), .val (.int (0 : Int32)), .val (.int (0 : Int32))] []))
      refine ownVia (fun _ k => XS.iload X20.here hx rfl (hb hby at_74) rfl k) ?_
      show ownFin _ _ _ _ _ (T20.setTop (mkF m 76 #[.val (.int p1), .val (.int nv), .val (.ref eH), .val (.int (0 : Int32)), .val (.int (0 : Int32))] [(.int (0 : Int32))]))
      refine ownVia (fun _ k => XS.iloadN X20.here hx rfl (hb hby at_76) rfl k) ?_
      show ownFin _ _ _ _ _ (T20.setTop (mkF m 77 #[.val (.int p1), .val (.int nv), .val (.ref eH), .val (.int (0 : Int32)), .val (.int (0 : Int32))] [(.int (0 : Int32)), (.int (0 : Int32))]))
      refine ownVia (fun _ k => XS.icmpNo X20.here hx rfl (hb hby at_77) rfl (teq rfl).2 k) ?_
      show ownFin _ _ _ _ _ (T20.setTop (mkF m 80 #[.val (.int p1), .val (.int nv), .val (.ref eH), .val (.int (0 : Int32)), .val (.int (0 : Int32))] []))
      refine ownVia (fun _ k => XS.iload X20.here hx rfl (hb hby at_80) rfl k) ?_
      show ownFin _ _ _ _ _ (T20.setTop (mkF m 82 #[.val (.int p1), .val (.int nv), .val (.ref eH), .val (.int (0 : Int32)), .val (.int (0 : Int32))] [(.int (0 : Int32))]))
      refine ownVia (fun _ k => XS.aloadN X20.here hx rfl (hb hby at_82) rfl rfl k) ?_
      show ownFin _ _ _ _ _ (T20.setTop (mkF m 83 #[.val (.int p1), .val (.int nv), .val (.ref eH), .val (.int (0 : Int32)), .val (.int (0 : Int32))] [(.ref eH), (.int (0 : Int32))]))
      refine ownCallV X20 hx hZ hown (hw _ (List.mem_of_getElem? (i := 15) rfl)) (hw _ (List.mem_of_getElem? (i := 16) rfl)) (hw _ (List.mem_of_getElem? (i := 18) rfl)) (hw _ (List.mem_of_getElem? (i := 18) rfl)) (hw _ (List.mem_of_getElem? (i := 17) rfl)) (hw _ (List.mem_of_getElem? (i := 2) rfl)) (hw _ (List.mem_of_getElem? (i := 19) rfl)) (by decide) e20 E_eH (own_code l Z a0 hw eH h0 n0 (4 : Int32) Z0 C_1) (by rw [hml]; rfl) [] [(.int (0 : Int32))] (lenOf own_pd1 rfl) rfl rfl 1 rfl (hb hby at_83) (by decide) (by decide) (by decide) (by decide) ?_
      intro v21 T21 L21 X21 hq21
      obtain ⟨rfl, N21q, eq21⟩ := hq21
      have N21 := Fr.app N20 N21q
      have e21 : T21.heap = h0 := eq21
      show ownFin _ _ _ _ _ (T21.setTop (mkF m 86 #[.val (.int p1), .val (.int nv), .val (.ref eH), .val (.int (0 : Int32)), .val (.int (0 : Int32))] [(.int (4 : Int32)), (.int (0 : Int32))]))
      refine ownVia (fun _ k => XS.iconst X21.here hx rfl (hb hby at_86) k) ?_
      show ownFin _ _ _ _ _ (T21.setTop (mkF m 87 #[.val (.int p1), .val (.int nv), .val (.ref eH), .val (.int (0 : Int32)), .val (.int (0 : Int32))] [(.int (5 : Int32)), (.int (4 : Int32)), (.int (0 : Int32))]))
      refine ownVia (fun _ k => XS.icmpYes X21.here hx rfl (pc0 := 87) (pc' := 94) rfl (hb hby at_87) rfl (tlt (by decide)).1 (by decide) (by decide) k) ?_
      show ownFin _ _ _ _ _ (T21.setTop (mkF m 94 #[.val (.int p1), .val (.int nv), .val (.ref eH), .val (.int (0 : Int32)), .val (.int (0 : Int32))] [(.int (0 : Int32))]))
      refine ownVia (fun _ k => XS.iconst X21.here hx rfl (hb hby at_94) k) ?_
      show ownFin _ _ _ _ _ (T21.setTop (mkF m 95 #[.val (.int p1), .val (.int nv), .val (.ref eH), .val (.int (0 : Int32)), .val (.int (0 : Int32))] [(.int (0 : Int32)), (.int (0 : Int32))]))
      refine ownVia (fun _ k => XS.icmpNo X21.here hx rfl (hb hby at_95) rfl (teq rfl).2 k) ?_
      show ownFin _ _ _ _ _ (T21.setTop (mkF m 98 #[.val (.int p1), .val (.int nv), .val (.ref eH), .val (.int (0 : Int32)), .val (.int (0 : Int32))] []))
      refine ownVia (fun _ k => XS.iload X21.here hx rfl (hb hby at_98) rfl k) ?_
      show ownFin _ _ _ _ _ (T21.setTop (mkF m 100 #[.val (.int p1), .val (.int nv), .val (.ref eH), .val (.int (0 : Int32)), .val (.int (0 : Int32))] [(.int (0 : Int32))]))
      refine ownVia (fun _ k => XS.ifYes X21.here hx rfl (pc0 := 100) (pc' := 110) rfl (hb hby at_100) rfl ((if0 _ _).trans (teq rfl).1) (by decide) (by decide) k) ?_
      show ownFin _ _ _ _ _ (T21.setTop (mkF m 110 #[.val (.int p1), .val (.int nv), .val (.ref eH), .val (.int (0 : Int32)), .val (.int (0 : Int32))] []))
      refine ownVia (fun _ k => XS.iconst X21.here hx rfl (hb hby at_110) k) ?_
      show ownFin _ _ _ _ _ (T21.setTop (mkF m 111 #[.val (.int p1), .val (.int nv), .val (.ref eH), .val (.int (0 : Int32)), .val (.int (0 : Int32))] [(.int (1 : Int32))]))
      refine ownVia (fun _ k => XS.goto X21.here hx rfl (pc0 := 111) (pc' := 115) rfl (hb hby at_111) (by decide) (by decide) k) ?_
      show ownFin _ _ _ _ _ (T21.setTop (mkF m 115 #[.val (.int p1), .val (.int nv), .val (.ref eH), .val (.int (0 : Int32)), .val (.int (0 : Int32))] [(.int (1 : Int32))]))
      refine ownRetZ X21 hx hlk hret (hb hby at_115) (by decide) (by decide) (Or.inr rfl) ?_
      show (Q_own_law Z p1 h0 n0 eC eH eR eK eL) (some (.int (1 : Int32))) T21.heap _
      rw [e21]
      exact ⟨rfl, N21⟩
    case neg =>
      have hc18I : ¬ nv.toInt = 1 := fun q => hc18 ((own_eqi rfl (by decide)).mpr q)
      refine ownVia (fun _ k => XS.icmpYes X0.here hx rfl (pc0 := 22) (pc' := 34) rfl (hb hby at_22) rfl (feq hc18).2 (by decide) (by decide) k) ?_
      show ownFin _ _ _ _ _ (T0.setTop (mkF m 34 #[.val (.int p1), .val (.int nv), .unset, .unset, .unset] []))
      refine ownVia (fun _ k => XS.iloadN X0.here hx rfl (hb hby at_34) rfl k) ?_
      show ownFin _ _ _ _ _ (T0.setTop (mkF m 35 #[.val (.int p1), .val (.int nv), .unset, .unset, .unset] [(.int nv)]))
      refine ownVia (fun _ k => XS.iconst X0.here hx rfl (hb hby at_35) k) ?_
      show ownFin _ _ _ _ _ (T0.setTop (mkF m 36 #[.val (.int p1), .val (.int nv), .unset, .unset, .unset] [(.int (2 : Int32)), (.int nv)]))
      by_cases hc22 : nv = (2 : Int32)
      case pos =>
        have hc22I : nv.toInt = 2 := (own_eqi rfl (by decide)).mp hc22
        refine ownVia (fun _ k => XS.icmpNo X0.here hx rfl (hb hby at_36) rfl (teq hc22).2 k) ?_
        show ownFin _ _ _ _ _ (T0.setTop (mkF m 39 #[.val (.int p1), .val (.int nv), .unset, .unset, .unset] []))
        obtain ⟨T23, X23, e23, st23⟩ := getS2 X0 hx hZ hown (host := "") (Or.inl (hw _ (List.mem_of_getElem? (i := 32) rfl))) Via.refl e0 S_2 (g := (mkF m 39 #[.val (.int p1), .val (.int nv), .unset, .unset, .unset] [])) rfl (hb hby at_39)
        refine ownVia st23 ?_
        show ownFin _ _ _ _ _ (T23.setTop (mkF m 42 #[.val (.int p1), .val (.int nv), .unset, .unset, .unset] [(.ref eR)]))
        refine ownVia (fun _ k => XS.astoreN X23.here hx rfl (hb hby at_42) rfl rfl (l' := #[.val (.int p1), .val (.int nv), .val (.ref eR), .unset, .unset]) rfl k) ?_
        show ownFin _ _ _ _ _ (T23.setTop (mkF m 43 #[.val (.int p1), .val (.int nv), .val (.ref eR), .unset, .unset] []))
        refine ownVia (fun _ k => XS.iconst X23.here hx rfl (hb hby at_43) k) ?_
        show ownFin _ _ _ _ _ (T23.setTop (mkF m 44 #[.val (.int p1), .val (.int nv), .val (.ref eR), .unset, .unset] [(.int (1 : Int32))]))
        refine ownVia (fun _ k => XS.istoreN X23.here hx rfl (hb hby at_44) rfl (l' := #[.val (.int p1), .val (.int nv), .val (.ref eR), .val (.int (1 : Int32)), .unset]) rfl k) ?_
        show ownFin _ _ _ _ _ (T23.setTop (mkF m 45 #[.val (.int p1), .val (.int nv), .val (.ref eR), .val (.int (1 : Int32)), .unset] []))
        refine ownVia (fun _ k => XS.goto X23.here hx rfl (pc0 := 45) (pc' := 68) rfl (hb hby at_45) (by decide) (by decide) k) ?_
        show ownFin _ _ _ _ _ (T23.setTop (mkF m 68 #[.val (.int p1), .val (.int nv), .val (.ref eR), .val (.int (1 : Int32)), .unset] []))
        refine ownVia (fun _ k => XS.aloadN X23.here hx rfl (hb hby at_68) rfl rfl k) ?_
        show ownFin _ _ _ _ _ (T23.setTop (mkF m 69 #[.val (.int p1), .val (.int nv), .val (.ref eR), .val (.int (1 : Int32)), .unset] [(.ref eR)]))
        refine ownCallV X23 hx hZ hown (hw _ (List.mem_of_getElem? (i := 4) rfl)) (hw _ (List.mem_of_getElem? (i := 5) rfl)) (hw _ (List.mem_of_getElem? (i := 7) rfl)) (hw _ (List.mem_of_getElem? (i := 7) rfl)) (hw _ (List.mem_of_getElem? (i := 6) rfl)) (hw _ (List.mem_of_getElem? (i := 2) rfl)) (hw _ (List.mem_of_getElem? (i := 8) rfl)) (by decide) e23 E_eR (own_signs l Z a0 hw eR h0 n0 eR eK eL Z0 S_2 S_3 S_4) (by rw [hml]; rfl) [] [] (lenOf own_pd0 rfl) rfl rfl 0 rfl (hb hby at_69) (by decide) (by decide) (by decide) (by decide) ?_
        intro v24 T24 L24 X24 hq24
        obtain ⟨rfl, N24q, eq24⟩ := hq24
        have N24 := Fr.app N0 N24q
        have e24 : T24.heap = h0 := eq24
        show ownFin _ _ _ _ _ (T24.setTop (mkF m 72 #[.val (.int p1), .val (.int nv), .val (.ref eR), .val (.int (1 : Int32)), .unset] [(.int (own_sg eR eR eK eL))]))
        rw [own_sg1 (Or.inl rfl)]
        show ownFin _ _ _ _ _ (T24.setTop (mkF m 72 #[.val (.int p1), .val (.int nv), .val (.ref eR), .val (.int (1 : Int32)), .unset] [(.int (1 : Int32))]))
        refine ownVia (fun _ k => XS.istore X24.here hx rfl (hb hby at_72) rfl (l' := #[.val (.int p1), .val (.int nv), .val (.ref eR), .val (.int (1 : Int32)), .val (.int (1 : Int32))]) rfl k) ?_
        show ownFin _ _ _ _ _ (T24.setTop (mkF m 74 #[.val (.int p1), .val (.int nv), .val (.ref eR), .val (.int (1 : Int32)), .val (.int (1 : Int32))] []))
        refine ownVia (fun _ k => XS.iload X24.here hx rfl (hb hby at_74) rfl k) ?_
        show ownFin _ _ _ _ _ (T24.setTop (mkF m 76 #[.val (.int p1), .val (.int nv), .val (.ref eR), .val (.int (1 : Int32)), .val (.int (1 : Int32))] [(.int (1 : Int32))]))
        refine ownVia (fun _ k => XS.iloadN X24.here hx rfl (hb hby at_76) rfl k) ?_
        show ownFin _ _ _ _ _ (T24.setTop (mkF m 77 #[.val (.int p1), .val (.int nv), .val (.ref eR), .val (.int (1 : Int32)), .val (.int (1 : Int32))] [(.int (1 : Int32)), (.int (1 : Int32))]))
        refine ownVia (fun _ k => XS.icmpNo X24.here hx rfl (hb hby at_77) rfl (teq rfl).2 k) ?_
        show ownFin _ _ _ _ _ (T24.setTop (mkF m 80 #[.val (.int p1), .val (.int nv), .val (.ref eR), .val (.int (1 : Int32)), .val (.int (1 : Int32))] []))
        refine ownVia (fun _ k => XS.iload X24.here hx rfl (hb hby at_80) rfl k) ?_
        show ownFin _ _ _ _ _ (T24.setTop (mkF m 82 #[.val (.int p1), .val (.int nv), .val (.ref eR), .val (.int (1 : Int32)), .val (.int (1 : Int32))] [(.int (1 : Int32))]))
        refine ownVia (fun _ k => XS.aloadN X24.here hx rfl (hb hby at_82) rfl rfl k) ?_
        show ownFin _ _ _ _ _ (T24.setTop (mkF m 83 #[.val (.int p1), .val (.int nv), .val (.ref eR), .val (.int (1 : Int32)), .val (.int (1 : Int32))] [(.ref eR), (.int (1 : Int32))]))
        refine ownCallV X24 hx hZ hown (hw _ (List.mem_of_getElem? (i := 15) rfl)) (hw _ (List.mem_of_getElem? (i := 16) rfl)) (hw _ (List.mem_of_getElem? (i := 18) rfl)) (hw _ (List.mem_of_getElem? (i := 18) rfl)) (hw _ (List.mem_of_getElem? (i := 17) rfl)) (hw _ (List.mem_of_getElem? (i := 2) rfl)) (hw _ (List.mem_of_getElem? (i := 19) rfl)) (by decide) e24 E_eR (own_code l Z a0 hw eR h0 n0 (5 : Int32) Z0 C_2) (by rw [hml]; rfl) [] [(.int (1 : Int32))] (lenOf own_pd1 rfl) rfl rfl 1 rfl (hb hby at_83) (by decide) (by decide) (by decide) (by decide) ?_
        intro v25 T25 L25 X25 hq25
        obtain ⟨rfl, N25q, eq25⟩ := hq25
        have N25 := Fr.app N24 N25q
        have e25 : T25.heap = h0 := eq25
        show ownFin _ _ _ _ _ (T25.setTop (mkF m 86 #[.val (.int p1), .val (.int nv), .val (.ref eR), .val (.int (1 : Int32)), .val (.int (1 : Int32))] [(.int (5 : Int32)), (.int (1 : Int32))]))
        refine ownVia (fun _ k => XS.iconst X25.here hx rfl (hb hby at_86) k) ?_
        show ownFin _ _ _ _ _ (T25.setTop (mkF m 87 #[.val (.int p1), .val (.int nv), .val (.ref eR), .val (.int (1 : Int32)), .val (.int (1 : Int32))] [(.int (5 : Int32)), (.int (5 : Int32)), (.int (1 : Int32))]))
        refine ownVia (fun _ k => XS.icmpNo X25.here hx rfl (hb hby at_87) rfl (flt (by decide)).1 k) ?_
        show ownFin _ _ _ _ _ (T25.setTop (mkF m 90 #[.val (.int p1), .val (.int nv), .val (.ref eR), .val (.int (1 : Int32)), .val (.int (1 : Int32))] [(.int (1 : Int32))]))
        refine ownVia (fun _ k => XS.iconst X25.here hx rfl (hb hby at_90) k) ?_
        show ownFin _ _ _ _ _ (T25.setTop (mkF m 91 #[.val (.int p1), .val (.int nv), .val (.ref eR), .val (.int (1 : Int32)), .val (.int (1 : Int32))] [(.int (1 : Int32)), (.int (1 : Int32))]))
        refine ownVia (fun _ k => XS.goto X25.here hx rfl (pc0 := 91) (pc' := 95) rfl (hb hby at_91) (by decide) (by decide) k) ?_
        show ownFin _ _ _ _ _ (T25.setTop (mkF m 95 #[.val (.int p1), .val (.int nv), .val (.ref eR), .val (.int (1 : Int32)), .val (.int (1 : Int32))] [(.int (1 : Int32)), (.int (1 : Int32))]))
        refine ownVia (fun _ k => XS.icmpNo X25.here hx rfl (hb hby at_95) rfl (teq rfl).2 k) ?_
        show ownFin _ _ _ _ _ (T25.setTop (mkF m 98 #[.val (.int p1), .val (.int nv), .val (.ref eR), .val (.int (1 : Int32)), .val (.int (1 : Int32))] []))
        refine ownVia (fun _ k => XS.iload X25.here hx rfl (hb hby at_98) rfl k) ?_
        show ownFin _ _ _ _ _ (T25.setTop (mkF m 100 #[.val (.int p1), .val (.int nv), .val (.ref eR), .val (.int (1 : Int32)), .val (.int (1 : Int32))] [(.int (1 : Int32))]))
        refine ownVia (fun _ k => XS.ifNo X25.here hx rfl (hb hby at_100) rfl ((if0 _ _).trans (feq (by decide)).1) k) ?_
        show ownFin _ _ _ _ _ (T25.setTop (mkF m 103 #[.val (.int p1), .val (.int nv), .val (.ref eR), .val (.int (1 : Int32)), .val (.int (1 : Int32))] []))
        refine ownVia (fun _ k => XS.aloadN X25.here hx rfl (hb hby at_103) rfl rfl k) ?_
        show ownFin _ _ _ _ _ (T25.setTop (mkF m 104 #[.val (.int p1), .val (.int nv), .val (.ref eR), .val (.int (1 : Int32)), .val (.int (1 : Int32))] [(.ref eR)]))
        refine ownCallV X25 hx hZ hown (hw _ (List.mem_of_getElem? (i := 23) rfl)) (hw _ (List.mem_of_getElem? (i := 24) rfl)) (hw _ (List.mem_of_getElem? (i := 26) rfl)) (hw _ (List.mem_of_getElem? (i := 26) rfl)) (hw _ (List.mem_of_getElem? (i := 25) rfl)) (hw _ (List.mem_of_getElem? (i := 2) rfl)) (hw _ (List.mem_of_getElem? (i := 27) rfl)) (by decide) e25 E_eR (own_hdd l Z a0 hw eR h0 n0 eC Z0 S_0) (by rw [hml]; rfl) [] [] (lenOf own_pd0 rfl) rfl rfl 0 rfl (hb hby at_104) (by decide) (by decide) (by decide) (by decide) ?_
        intro v26 T26 L26 X26 hq26
        obtain ⟨rfl, N26q, eq26⟩ := hq26
        have N26 := Fr.app N25 N26q
        have e26 : T26.heap = h0 := eq26
        show ownFin _ _ _ _ _ (T26.setTop (mkF m 107 #[.val (.int p1), .val (.int nv), .val (.ref eR), .val (.int (1 : Int32)), .val (.int (1 : Int32))] [(.int (own_hd eR eC))]))
        refine ownVia (fun _ k => XS.ifNo X26.here hx rfl (hb hby at_107) rfl ((if0 _ _).trans (feq (by rw [own_hd1 ne_2_0]; decide)).1) k) ?_
        show ownFin _ _ _ _ _ (T26.setTop (mkF m 110 #[.val (.int p1), .val (.int nv), .val (.ref eR), .val (.int (1 : Int32)), .val (.int (1 : Int32))] []))
        refine ownVia (fun _ k => XS.iconst X26.here hx rfl (hb hby at_110) k) ?_
        show ownFin _ _ _ _ _ (T26.setTop (mkF m 111 #[.val (.int p1), .val (.int nv), .val (.ref eR), .val (.int (1 : Int32)), .val (.int (1 : Int32))] [(.int (1 : Int32))]))
        refine ownVia (fun _ k => XS.goto X26.here hx rfl (pc0 := 111) (pc' := 115) rfl (hb hby at_111) (by decide) (by decide) k) ?_
        show ownFin _ _ _ _ _ (T26.setTop (mkF m 115 #[.val (.int p1), .val (.int nv), .val (.ref eR), .val (.int (1 : Int32)), .val (.int (1 : Int32))] [(.int (1 : Int32))]))
        refine ownRetZ X26 hx hlk hret (hb hby at_115) (by decide) (by decide) (Or.inr rfl) ?_
        show (Q_own_law Z p1 h0 n0 eC eH eR eK eL) (some (.int (1 : Int32))) T26.heap _
        rw [e26]
        exact ⟨rfl, N26⟩
      case neg =>
        have hc22I : ¬ nv.toInt = 2 := fun q => hc22 ((own_eqi rfl (by decide)).mpr q)
        refine ownVia (fun _ k => XS.icmpYes X0.here hx rfl (pc0 := 36) (pc' := 48) rfl (hb hby at_36) rfl (feq hc22).2 (by decide) (by decide) k) ?_
        show ownFin _ _ _ _ _ (T0.setTop (mkF m 48 #[.val (.int p1), .val (.int nv), .unset, .unset, .unset] []))
        refine ownVia (fun _ k => XS.iloadN X0.here hx rfl (hb hby at_48) rfl k) ?_
        show ownFin _ _ _ _ _ (T0.setTop (mkF m 49 #[.val (.int p1), .val (.int nv), .unset, .unset, .unset] [(.int nv)]))
        refine ownVia (fun _ k => XS.iconst X0.here hx rfl (hb hby at_49) k) ?_
        show ownFin _ _ _ _ _ (T0.setTop (mkF m 50 #[.val (.int p1), .val (.int nv), .unset, .unset, .unset] [(.int (3 : Int32)), (.int nv)]))
        by_cases hc27 : nv = (3 : Int32)
        case pos =>
          have hc27I : nv.toInt = 3 := (own_eqi rfl (by decide)).mp hc27
          refine ownVia (fun _ k => XS.icmpNo X0.here hx rfl (hb hby at_50) rfl (teq hc27).2 k) ?_
          show ownFin _ _ _ _ _ (T0.setTop (mkF m 53 #[.val (.int p1), .val (.int nv), .unset, .unset, .unset] []))
          obtain ⟨T28, X28, e28, st28⟩ := getS2 X0 hx hZ hown (host := "") (Or.inl (hw _ (List.mem_of_getElem? (i := 22) rfl))) Via.refl e0 S_3 (g := (mkF m 53 #[.val (.int p1), .val (.int nv), .unset, .unset, .unset] [])) rfl (hb hby at_53)
          refine ownVia st28 ?_
          show ownFin _ _ _ _ _ (T28.setTop (mkF m 56 #[.val (.int p1), .val (.int nv), .unset, .unset, .unset] [(.ref eK)]))
          refine ownVia (fun _ k => XS.astoreN X28.here hx rfl (hb hby at_56) rfl rfl (l' := #[.val (.int p1), .val (.int nv), .val (.ref eK), .unset, .unset]) rfl k) ?_
          show ownFin _ _ _ _ _ (T28.setTop (mkF m 57 #[.val (.int p1), .val (.int nv), .val (.ref eK), .unset, .unset] []))
          refine ownVia (fun _ k => XS.iconst X28.here hx rfl (hb hby at_57) k) ?_
          show ownFin _ _ _ _ _ (T28.setTop (mkF m 58 #[.val (.int p1), .val (.int nv), .val (.ref eK), .unset, .unset] [(.int (1 : Int32))]))
          refine ownVia (fun _ k => XS.istoreN X28.here hx rfl (hb hby at_58) rfl (l' := #[.val (.int p1), .val (.int nv), .val (.ref eK), .val (.int (1 : Int32)), .unset]) rfl k) ?_
          show ownFin _ _ _ _ _ (T28.setTop (mkF m 59 #[.val (.int p1), .val (.int nv), .val (.ref eK), .val (.int (1 : Int32)), .unset] []))
          refine ownVia (fun _ k => XS.goto X28.here hx rfl (pc0 := 59) (pc' := 68) rfl (hb hby at_59) (by decide) (by decide) k) ?_
          show ownFin _ _ _ _ _ (T28.setTop (mkF m 68 #[.val (.int p1), .val (.int nv), .val (.ref eK), .val (.int (1 : Int32)), .unset] []))
          refine ownVia (fun _ k => XS.aloadN X28.here hx rfl (hb hby at_68) rfl rfl k) ?_
          show ownFin _ _ _ _ _ (T28.setTop (mkF m 69 #[.val (.int p1), .val (.int nv), .val (.ref eK), .val (.int (1 : Int32)), .unset] [(.ref eK)]))
          refine ownCallV X28 hx hZ hown (hw _ (List.mem_of_getElem? (i := 4) rfl)) (hw _ (List.mem_of_getElem? (i := 5) rfl)) (hw _ (List.mem_of_getElem? (i := 7) rfl)) (hw _ (List.mem_of_getElem? (i := 7) rfl)) (hw _ (List.mem_of_getElem? (i := 6) rfl)) (hw _ (List.mem_of_getElem? (i := 2) rfl)) (hw _ (List.mem_of_getElem? (i := 8) rfl)) (by decide) e28 E_eK (own_signs l Z a0 hw eK h0 n0 eR eK eL Z0 S_2 S_3 S_4) (by rw [hml]; rfl) [] [] (lenOf own_pd0 rfl) rfl rfl 0 rfl (hb hby at_69) (by decide) (by decide) (by decide) (by decide) ?_
          intro v29 T29 L29 X29 hq29
          obtain ⟨rfl, N29q, eq29⟩ := hq29
          have N29 := Fr.app N0 N29q
          have e29 : T29.heap = h0 := eq29
          show ownFin _ _ _ _ _ (T29.setTop (mkF m 72 #[.val (.int p1), .val (.int nv), .val (.ref eK), .val (.int (1 : Int32)), .unset] [(.int (own_sg eK eR eK eL))]))
          rw [own_sg1 (Or.inr (Or.inl rfl))]
          show ownFin _ _ _ _ _ (T29.setTop (mkF m 72 #[.val (.int p1), .val (.int nv), .val (.ref eK), .val (.int (1 : Int32)), .unset] [(.int (1 : Int32))]))
          refine ownVia (fun _ k => XS.istore X29.here hx rfl (hb hby at_72) rfl (l' := #[.val (.int p1), .val (.int nv), .val (.ref eK), .val (.int (1 : Int32)), .val (.int (1 : Int32))]) rfl k) ?_
          show ownFin _ _ _ _ _ (T29.setTop (mkF m 74 #[.val (.int p1), .val (.int nv), .val (.ref eK), .val (.int (1 : Int32)), .val (.int (1 : Int32))] []))
          refine ownVia (fun _ k => XS.iload X29.here hx rfl (hb hby at_74) rfl k) ?_
          show ownFin _ _ _ _ _ (T29.setTop (mkF m 76 #[.val (.int p1), .val (.int nv), .val (.ref eK), .val (.int (1 : Int32)), .val (.int (1 : Int32))] [(.int (1 : Int32))]))
          refine ownVia (fun _ k => XS.iloadN X29.here hx rfl (hb hby at_76) rfl k) ?_
          show ownFin _ _ _ _ _ (T29.setTop (mkF m 77 #[.val (.int p1), .val (.int nv), .val (.ref eK), .val (.int (1 : Int32)), .val (.int (1 : Int32))] [(.int (1 : Int32)), (.int (1 : Int32))]))
          refine ownVia (fun _ k => XS.icmpNo X29.here hx rfl (hb hby at_77) rfl (teq rfl).2 k) ?_
          show ownFin _ _ _ _ _ (T29.setTop (mkF m 80 #[.val (.int p1), .val (.int nv), .val (.ref eK), .val (.int (1 : Int32)), .val (.int (1 : Int32))] []))
          refine ownVia (fun _ k => XS.iload X29.here hx rfl (hb hby at_80) rfl k) ?_
          show ownFin _ _ _ _ _ (T29.setTop (mkF m 82 #[.val (.int p1), .val (.int nv), .val (.ref eK), .val (.int (1 : Int32)), .val (.int (1 : Int32))] [(.int (1 : Int32))]))
          refine ownVia (fun _ k => XS.aloadN X29.here hx rfl (hb hby at_82) rfl rfl k) ?_
          show ownFin _ _ _ _ _ (T29.setTop (mkF m 83 #[.val (.int p1), .val (.int nv), .val (.ref eK), .val (.int (1 : Int32)), .val (.int (1 : Int32))] [(.ref eK), (.int (1 : Int32))]))
          refine ownCallV X29 hx hZ hown (hw _ (List.mem_of_getElem? (i := 15) rfl)) (hw _ (List.mem_of_getElem? (i := 16) rfl)) (hw _ (List.mem_of_getElem? (i := 18) rfl)) (hw _ (List.mem_of_getElem? (i := 18) rfl)) (hw _ (List.mem_of_getElem? (i := 17) rfl)) (hw _ (List.mem_of_getElem? (i := 2) rfl)) (hw _ (List.mem_of_getElem? (i := 19) rfl)) (by decide) e29 E_eK (own_code l Z a0 hw eK h0 n0 (6 : Int32) Z0 C_3) (by rw [hml]; rfl) [] [(.int (1 : Int32))] (lenOf own_pd1 rfl) rfl rfl 1 rfl (hb hby at_83) (by decide) (by decide) (by decide) (by decide) ?_
          intro v30 T30 L30 X30 hq30
          obtain ⟨rfl, N30q, eq30⟩ := hq30
          have N30 := Fr.app N29 N30q
          have e30 : T30.heap = h0 := eq30
          show ownFin _ _ _ _ _ (T30.setTop (mkF m 86 #[.val (.int p1), .val (.int nv), .val (.ref eK), .val (.int (1 : Int32)), .val (.int (1 : Int32))] [(.int (6 : Int32)), (.int (1 : Int32))]))
          refine ownVia (fun _ k => XS.iconst X30.here hx rfl (hb hby at_86) k) ?_
          show ownFin _ _ _ _ _ (T30.setTop (mkF m 87 #[.val (.int p1), .val (.int nv), .val (.ref eK), .val (.int (1 : Int32)), .val (.int (1 : Int32))] [(.int (5 : Int32)), (.int (6 : Int32)), (.int (1 : Int32))]))
          refine ownVia (fun _ k => XS.icmpNo X30.here hx rfl (hb hby at_87) rfl (flt (by decide)).1 k) ?_
          show ownFin _ _ _ _ _ (T30.setTop (mkF m 90 #[.val (.int p1), .val (.int nv), .val (.ref eK), .val (.int (1 : Int32)), .val (.int (1 : Int32))] [(.int (1 : Int32))]))
          refine ownVia (fun _ k => XS.iconst X30.here hx rfl (hb hby at_90) k) ?_
          show ownFin _ _ _ _ _ (T30.setTop (mkF m 91 #[.val (.int p1), .val (.int nv), .val (.ref eK), .val (.int (1 : Int32)), .val (.int (1 : Int32))] [(.int (1 : Int32)), (.int (1 : Int32))]))
          refine ownVia (fun _ k => XS.goto X30.here hx rfl (pc0 := 91) (pc' := 95) rfl (hb hby at_91) (by decide) (by decide) k) ?_
          show ownFin _ _ _ _ _ (T30.setTop (mkF m 95 #[.val (.int p1), .val (.int nv), .val (.ref eK), .val (.int (1 : Int32)), .val (.int (1 : Int32))] [(.int (1 : Int32)), (.int (1 : Int32))]))
          refine ownVia (fun _ k => XS.icmpNo X30.here hx rfl (hb hby at_95) rfl (teq rfl).2 k) ?_
          show ownFin _ _ _ _ _ (T30.setTop (mkF m 98 #[.val (.int p1), .val (.int nv), .val (.ref eK), .val (.int (1 : Int32)), .val (.int (1 : Int32))] []))
          refine ownVia (fun _ k => XS.iload X30.here hx rfl (hb hby at_98) rfl k) ?_
          show ownFin _ _ _ _ _ (T30.setTop (mkF m 100 #[.val (.int p1), .val (.int nv), .val (.ref eK), .val (.int (1 : Int32)), .val (.int (1 : Int32))] [(.int (1 : Int32))]))
          refine ownVia (fun _ k => XS.ifNo X30.here hx rfl (hb hby at_100) rfl ((if0 _ _).trans (feq (by decide)).1) k) ?_
          show ownFin _ _ _ _ _ (T30.setTop (mkF m 103 #[.val (.int p1), .val (.int nv), .val (.ref eK), .val (.int (1 : Int32)), .val (.int (1 : Int32))] []))
          refine ownVia (fun _ k => XS.aloadN X30.here hx rfl (hb hby at_103) rfl rfl k) ?_
          show ownFin _ _ _ _ _ (T30.setTop (mkF m 104 #[.val (.int p1), .val (.int nv), .val (.ref eK), .val (.int (1 : Int32)), .val (.int (1 : Int32))] [(.ref eK)]))
          refine ownCallV X30 hx hZ hown (hw _ (List.mem_of_getElem? (i := 23) rfl)) (hw _ (List.mem_of_getElem? (i := 24) rfl)) (hw _ (List.mem_of_getElem? (i := 26) rfl)) (hw _ (List.mem_of_getElem? (i := 26) rfl)) (hw _ (List.mem_of_getElem? (i := 25) rfl)) (hw _ (List.mem_of_getElem? (i := 2) rfl)) (hw _ (List.mem_of_getElem? (i := 27) rfl)) (by decide) e30 E_eK (own_hdd l Z a0 hw eK h0 n0 eC Z0 S_0) (by rw [hml]; rfl) [] [] (lenOf own_pd0 rfl) rfl rfl 0 rfl (hb hby at_104) (by decide) (by decide) (by decide) (by decide) ?_
          intro v31 T31 L31 X31 hq31
          obtain ⟨rfl, N31q, eq31⟩ := hq31
          have N31 := Fr.app N30 N31q
          have e31 : T31.heap = h0 := eq31
          show ownFin _ _ _ _ _ (T31.setTop (mkF m 107 #[.val (.int p1), .val (.int nv), .val (.ref eK), .val (.int (1 : Int32)), .val (.int (1 : Int32))] [(.int (own_hd eK eC))]))
          refine ownVia (fun _ k => XS.ifNo X31.here hx rfl (hb hby at_107) rfl ((if0 _ _).trans (feq (by rw [own_hd1 ne_3_0]; decide)).1) k) ?_
          show ownFin _ _ _ _ _ (T31.setTop (mkF m 110 #[.val (.int p1), .val (.int nv), .val (.ref eK), .val (.int (1 : Int32)), .val (.int (1 : Int32))] []))
          refine ownVia (fun _ k => XS.iconst X31.here hx rfl (hb hby at_110) k) ?_
          show ownFin _ _ _ _ _ (T31.setTop (mkF m 111 #[.val (.int p1), .val (.int nv), .val (.ref eK), .val (.int (1 : Int32)), .val (.int (1 : Int32))] [(.int (1 : Int32))]))
          refine ownVia (fun _ k => XS.goto X31.here hx rfl (pc0 := 111) (pc' := 115) rfl (hb hby at_111) (by decide) (by decide) k) ?_
          show ownFin _ _ _ _ _ (T31.setTop (mkF m 115 #[.val (.int p1), .val (.int nv), .val (.ref eK), .val (.int (1 : Int32)), .val (.int (1 : Int32))] [(.int (1 : Int32))]))
          refine ownRetZ X31 hx hlk hret (hb hby at_115) (by decide) (by decide) (Or.inr rfl) ?_
          show (Q_own_law Z p1 h0 n0 eC eH eR eK eL) (some (.int (1 : Int32))) T31.heap _
          rw [e31]
          exact ⟨rfl, N31⟩
        case neg =>
          have hc27I : ¬ nv.toInt = 3 := fun q => hc27 ((own_eqi rfl (by decide)).mpr q)
          refine ownVia (fun _ k => XS.icmpYes X0.here hx rfl (pc0 := 50) (pc' := 62) rfl (hb hby at_50) rfl (feq hc27).2 (by decide) (by decide) k) ?_
          show ownFin _ _ _ _ _ (T0.setTop (mkF m 62 #[.val (.int p1), .val (.int nv), .unset, .unset, .unset] []))
          obtain ⟨T32, X32, e32, st32⟩ := getS2 X0 hx hZ hown (host := "") (Or.inl (hw _ (List.mem_of_getElem? (i := 31) rfl))) Via.refl e0 S_4 (g := (mkF m 62 #[.val (.int p1), .val (.int nv), .unset, .unset, .unset] [])) rfl (hb hby at_62)
          refine ownVia st32 ?_
          show ownFin _ _ _ _ _ (T32.setTop (mkF m 65 #[.val (.int p1), .val (.int nv), .unset, .unset, .unset] [(.ref eL)]))
          refine ownVia (fun _ k => XS.astoreN X32.here hx rfl (hb hby at_65) rfl rfl (l' := #[.val (.int p1), .val (.int nv), .val (.ref eL), .unset, .unset]) rfl k) ?_
          show ownFin _ _ _ _ _ (T32.setTop (mkF m 66 #[.val (.int p1), .val (.int nv), .val (.ref eL), .unset, .unset] []))
          refine ownVia (fun _ k => XS.iconst X32.here hx rfl (hb hby at_66) k) ?_
          show ownFin _ _ _ _ _ (T32.setTop (mkF m 67 #[.val (.int p1), .val (.int nv), .val (.ref eL), .unset, .unset] [(.int (1 : Int32))]))
          refine ownVia (fun _ k => XS.istoreN X32.here hx rfl (hb hby at_67) rfl (l' := #[.val (.int p1), .val (.int nv), .val (.ref eL), .val (.int (1 : Int32)), .unset]) rfl k) ?_
          show ownFin _ _ _ _ _ (T32.setTop (mkF m 68 #[.val (.int p1), .val (.int nv), .val (.ref eL), .val (.int (1 : Int32)), .unset] []))
          refine ownVia (fun _ k => XS.aloadN X32.here hx rfl (hb hby at_68) rfl rfl k) ?_
          show ownFin _ _ _ _ _ (T32.setTop (mkF m 69 #[.val (.int p1), .val (.int nv), .val (.ref eL), .val (.int (1 : Int32)), .unset] [(.ref eL)]))
          refine ownCallV X32 hx hZ hown (hw _ (List.mem_of_getElem? (i := 4) rfl)) (hw _ (List.mem_of_getElem? (i := 5) rfl)) (hw _ (List.mem_of_getElem? (i := 7) rfl)) (hw _ (List.mem_of_getElem? (i := 7) rfl)) (hw _ (List.mem_of_getElem? (i := 6) rfl)) (hw _ (List.mem_of_getElem? (i := 2) rfl)) (hw _ (List.mem_of_getElem? (i := 8) rfl)) (by decide) e32 E_eL (own_signs l Z a0 hw eL h0 n0 eR eK eL Z0 S_2 S_3 S_4) (by rw [hml]; rfl) [] [] (lenOf own_pd0 rfl) rfl rfl 0 rfl (hb hby at_69) (by decide) (by decide) (by decide) (by decide) ?_
          intro v33 T33 L33 X33 hq33
          obtain ⟨rfl, N33q, eq33⟩ := hq33
          have N33 := Fr.app N0 N33q
          have e33 : T33.heap = h0 := eq33
          show ownFin _ _ _ _ _ (T33.setTop (mkF m 72 #[.val (.int p1), .val (.int nv), .val (.ref eL), .val (.int (1 : Int32)), .unset] [(.int (own_sg eL eR eK eL))]))
          rw [own_sg1 (Or.inr (Or.inr rfl))]
          show ownFin _ _ _ _ _ (T33.setTop (mkF m 72 #[.val (.int p1), .val (.int nv), .val (.ref eL), .val (.int (1 : Int32)), .unset] [(.int (1 : Int32))]))
          refine ownVia (fun _ k => XS.istore X33.here hx rfl (hb hby at_72) rfl (l' := #[.val (.int p1), .val (.int nv), .val (.ref eL), .val (.int (1 : Int32)), .val (.int (1 : Int32))]) rfl k) ?_
          show ownFin _ _ _ _ _ (T33.setTop (mkF m 74 #[.val (.int p1), .val (.int nv), .val (.ref eL), .val (.int (1 : Int32)), .val (.int (1 : Int32))] []))
          refine ownVia (fun _ k => XS.iload X33.here hx rfl (hb hby at_74) rfl k) ?_
          show ownFin _ _ _ _ _ (T33.setTop (mkF m 76 #[.val (.int p1), .val (.int nv), .val (.ref eL), .val (.int (1 : Int32)), .val (.int (1 : Int32))] [(.int (1 : Int32))]))
          refine ownVia (fun _ k => XS.iloadN X33.here hx rfl (hb hby at_76) rfl k) ?_
          show ownFin _ _ _ _ _ (T33.setTop (mkF m 77 #[.val (.int p1), .val (.int nv), .val (.ref eL), .val (.int (1 : Int32)), .val (.int (1 : Int32))] [(.int (1 : Int32)), (.int (1 : Int32))]))
          refine ownVia (fun _ k => XS.icmpNo X33.here hx rfl (hb hby at_77) rfl (teq rfl).2 k) ?_
          show ownFin _ _ _ _ _ (T33.setTop (mkF m 80 #[.val (.int p1), .val (.int nv), .val (.ref eL), .val (.int (1 : Int32)), .val (.int (1 : Int32))] []))
          refine ownVia (fun _ k => XS.iload X33.here hx rfl (hb hby at_80) rfl k) ?_
          show ownFin _ _ _ _ _ (T33.setTop (mkF m 82 #[.val (.int p1), .val (.int nv), .val (.ref eL), .val (.int (1 : Int32)), .val (.int (1 : Int32))] [(.int (1 : Int32))]))
          refine ownVia (fun _ k => XS.aloadN X33.here hx rfl (hb hby at_82) rfl rfl k) ?_
          show ownFin _ _ _ _ _ (T33.setTop (mkF m 83 #[.val (.int p1), .val (.int nv), .val (.ref eL), .val (.int (1 : Int32)), .val (.int (1 : Int32))] [(.ref eL), (.int (1 : Int32))]))
          refine ownCallV X33 hx hZ hown (hw _ (List.mem_of_getElem? (i := 15) rfl)) (hw _ (List.mem_of_getElem? (i := 16) rfl)) (hw _ (List.mem_of_getElem? (i := 18) rfl)) (hw _ (List.mem_of_getElem? (i := 18) rfl)) (hw _ (List.mem_of_getElem? (i := 17) rfl)) (hw _ (List.mem_of_getElem? (i := 2) rfl)) (hw _ (List.mem_of_getElem? (i := 19) rfl)) (by decide) e33 E_eL (own_code l Z a0 hw eL h0 n0 (7 : Int32) Z0 C_4) (by rw [hml]; rfl) [] [(.int (1 : Int32))] (lenOf own_pd1 rfl) rfl rfl 1 rfl (hb hby at_83) (by decide) (by decide) (by decide) (by decide) ?_
          intro v34 T34 L34 X34 hq34
          obtain ⟨rfl, N34q, eq34⟩ := hq34
          have N34 := Fr.app N33 N34q
          have e34 : T34.heap = h0 := eq34
          show ownFin _ _ _ _ _ (T34.setTop (mkF m 86 #[.val (.int p1), .val (.int nv), .val (.ref eL), .val (.int (1 : Int32)), .val (.int (1 : Int32))] [(.int (7 : Int32)), (.int (1 : Int32))]))
          refine ownVia (fun _ k => XS.iconst X34.here hx rfl (hb hby at_86) k) ?_
          show ownFin _ _ _ _ _ (T34.setTop (mkF m 87 #[.val (.int p1), .val (.int nv), .val (.ref eL), .val (.int (1 : Int32)), .val (.int (1 : Int32))] [(.int (5 : Int32)), (.int (7 : Int32)), (.int (1 : Int32))]))
          refine ownVia (fun _ k => XS.icmpNo X34.here hx rfl (hb hby at_87) rfl (flt (by decide)).1 k) ?_
          show ownFin _ _ _ _ _ (T34.setTop (mkF m 90 #[.val (.int p1), .val (.int nv), .val (.ref eL), .val (.int (1 : Int32)), .val (.int (1 : Int32))] [(.int (1 : Int32))]))
          refine ownVia (fun _ k => XS.iconst X34.here hx rfl (hb hby at_90) k) ?_
          show ownFin _ _ _ _ _ (T34.setTop (mkF m 91 #[.val (.int p1), .val (.int nv), .val (.ref eL), .val (.int (1 : Int32)), .val (.int (1 : Int32))] [(.int (1 : Int32)), (.int (1 : Int32))]))
          refine ownVia (fun _ k => XS.goto X34.here hx rfl (pc0 := 91) (pc' := 95) rfl (hb hby at_91) (by decide) (by decide) k) ?_
          show ownFin _ _ _ _ _ (T34.setTop (mkF m 95 #[.val (.int p1), .val (.int nv), .val (.ref eL), .val (.int (1 : Int32)), .val (.int (1 : Int32))] [(.int (1 : Int32)), (.int (1 : Int32))]))
          refine ownVia (fun _ k => XS.icmpNo X34.here hx rfl (hb hby at_95) rfl (teq rfl).2 k) ?_
          show ownFin _ _ _ _ _ (T34.setTop (mkF m 98 #[.val (.int p1), .val (.int nv), .val (.ref eL), .val (.int (1 : Int32)), .val (.int (1 : Int32))] []))
          refine ownVia (fun _ k => XS.iload X34.here hx rfl (hb hby at_98) rfl k) ?_
          show ownFin _ _ _ _ _ (T34.setTop (mkF m 100 #[.val (.int p1), .val (.int nv), .val (.ref eL), .val (.int (1 : Int32)), .val (.int (1 : Int32))] [(.int (1 : Int32))]))
          refine ownVia (fun _ k => XS.ifNo X34.here hx rfl (hb hby at_100) rfl ((if0 _ _).trans (feq (by decide)).1) k) ?_
          show ownFin _ _ _ _ _ (T34.setTop (mkF m 103 #[.val (.int p1), .val (.int nv), .val (.ref eL), .val (.int (1 : Int32)), .val (.int (1 : Int32))] []))
          refine ownVia (fun _ k => XS.aloadN X34.here hx rfl (hb hby at_103) rfl rfl k) ?_
          show ownFin _ _ _ _ _ (T34.setTop (mkF m 104 #[.val (.int p1), .val (.int nv), .val (.ref eL), .val (.int (1 : Int32)), .val (.int (1 : Int32))] [(.ref eL)]))
          refine ownCallV X34 hx hZ hown (hw _ (List.mem_of_getElem? (i := 23) rfl)) (hw _ (List.mem_of_getElem? (i := 24) rfl)) (hw _ (List.mem_of_getElem? (i := 26) rfl)) (hw _ (List.mem_of_getElem? (i := 26) rfl)) (hw _ (List.mem_of_getElem? (i := 25) rfl)) (hw _ (List.mem_of_getElem? (i := 2) rfl)) (hw _ (List.mem_of_getElem? (i := 27) rfl)) (by decide) e34 E_eL (own_hdd l Z a0 hw eL h0 n0 eC Z0 S_0) (by rw [hml]; rfl) [] [] (lenOf own_pd0 rfl) rfl rfl 0 rfl (hb hby at_104) (by decide) (by decide) (by decide) (by decide) ?_
          intro v35 T35 L35 X35 hq35
          obtain ⟨rfl, N35q, eq35⟩ := hq35
          have N35 := Fr.app N34 N35q
          have e35 : T35.heap = h0 := eq35
          show ownFin _ _ _ _ _ (T35.setTop (mkF m 107 #[.val (.int p1), .val (.int nv), .val (.ref eL), .val (.int (1 : Int32)), .val (.int (1 : Int32))] [(.int (own_hd eL eC))]))
          refine ownVia (fun _ k => XS.ifNo X35.here hx rfl (hb hby at_107) rfl ((if0 _ _).trans (feq (by rw [own_hd1 ne_4_0]; decide)).1) k) ?_
          show ownFin _ _ _ _ _ (T35.setTop (mkF m 110 #[.val (.int p1), .val (.int nv), .val (.ref eL), .val (.int (1 : Int32)), .val (.int (1 : Int32))] []))
          refine ownVia (fun _ k => XS.iconst X35.here hx rfl (hb hby at_110) k) ?_
          show ownFin _ _ _ _ _ (T35.setTop (mkF m 111 #[.val (.int p1), .val (.int nv), .val (.ref eL), .val (.int (1 : Int32)), .val (.int (1 : Int32))] [(.int (1 : Int32))]))
          refine ownVia (fun _ k => XS.goto X35.here hx rfl (pc0 := 111) (pc' := 115) rfl (hb hby at_111) (by decide) (by decide) k) ?_
          show ownFin _ _ _ _ _ (T35.setTop (mkF m 115 #[.val (.int p1), .val (.int nv), .val (.ref eL), .val (.int (1 : Int32)), .val (.int (1 : Int32))] [(.int (1 : Int32))]))
          refine ownRetZ X35 hx hlk hret (hb hby at_115) (by decide) (by decide) (Or.inr rfl) ?_
          show (Q_own_law Z p1 h0 n0 eC eH eR eK eL) (some (.int (1 : Int32))) T35.heap _
          rw [e35]
          exact ⟨rfl, N35⟩
set_option maxRecDepth 65536 in
set_option maxHeartbeats 40000000 in
theorem own_comes {Post : Tables → Env → Array Value → State → Outcome → State → Prop} (hpost : ∀ tb e args s v u, (limb_1_1.after args s (.returned v) u = true ∧ limb_1_2.after args s (.returned v) u = true ∧ True) → FrameEnd s (.returned v) u (Jvm.fieldLocs frame_1_writes args s ++ Jvm.arrayLocs frame_1_arrays args s ++ Jvm.staticLocs frame_1_statics s) 0 0 → Post tb e args s (.returned v) u) :
    ArmFor flags0 classFile x code maxLocals ret World_1 tables_1 room_1 Calls_1 rest_1 Pre_1 Post := by
  intro l hfl _ _ p e ha hc hk s m args below hf hA hF happ hP
  obtain ⟨hcalls, hrest, hpre⟩ := hP
  obtain ⟨-, -, -, hnamed, -, -, -, hat⟩ := (Spec.applies_iff hf).mp happ
  obtain ⟨hg, hn⟩ := and_e (Cond.before_iff.mp (show (Jvm.Cond.and given_1 narrow_1).before args s = true from hpre))
  obtain ⟨hcount, hg0⟩ := and_e hg
  obtain ⟨w0, rfl⟩ : ∃ w0 : Value, args = #[w0] := by
    have hs : args.size = 1 := by simpa [Cond.value, given_1] using hcount
    obtain ⟨L⟩ := args
    match L, hs with
    | [w0], _ => exact ⟨w0, rfl⟩
  have hw := fun d (hd : d ∈ tables_1) => atoms_spec (ws := Jvm.Cond.code x code maxLocals ret :: tables_1) hat d (List.mem_cons_of_mem _ hd)
  have hfit : Fit s := fun {y c} hc i hi => by
    obtain ⟨ha, rfl⟩ := Array.getElem?_eq_some_iff.mp hc
    have q := List.all_eq_true.mp ((Array.all_eq_true_iff_forall_mem.mp hF) _ (Array.getElem_mem ha)) i (List.mem_range.mpr hi)
    simpa [Array.getElem?_eq_getElem hi] using q
  obtain ⟨i0, ei0⟩ := is_v hg0
  obtain rfl : w0 = (.int i0) := Option.some.inj ei0
  obtain ⟨m0, n0⟩ := and_e hn
  obtain ⟨m1, n1⟩ := and_e n0
  obtain ⟨m2, n2⟩ := and_e n1
  obtain ⟨m3, n3⟩ := and_e n2
  obtain ⟨m4, n4⟩ := and_e n3
  obtain ⟨m5, n5⟩ := and_e n4
  obtain ⟨m6, n6⟩ := and_e n5
  obtain ⟨m7, n7⟩ := and_e n6
  obtain ⟨m8, n8⟩ := and_e n7
  obtain ⟨m9, n9⟩ := and_e n8
  obtain ⟨m10, n10⟩ := and_e n9
  obtain ⟨m11, n11⟩ := and_e n10
  obtain ⟨m12, n12⟩ := and_e n11
  obtain ⟨m13, n13⟩ := and_e n12
  obtain ⟨eC, ev0, S_0, E_0⟩ := own_enum m0 (hw _ (List.mem_of_getElem? (i := 2) rfl)) (hw _ (List.mem_of_getElem? (i := 3) rfl))
  have C_0 := own_efld ev0 m8
  obtain ⟨eH, ev1, S_1, E_1⟩ := own_enum m10 (hw _ (List.mem_of_getElem? (i := 2) rfl)) (hw _ (List.mem_of_getElem? (i := 30) rfl))
  have C_1 := own_efld ev1 m12
  obtain ⟨eR, ev2, S_2, E_2⟩ := own_enum m1 (hw _ (List.mem_of_getElem? (i := 2) rfl)) (hw _ (List.mem_of_getElem? (i := 10) rfl))
  have C_2 := own_efld ev2 n13
  obtain ⟨eK, ev3, S_3, E_3⟩ := own_enum m4 (hw _ (List.mem_of_getElem? (i := 2) rfl)) (hw _ (List.mem_of_getElem? (i := 12) rfl))
  have C_3 := own_efld ev3 m9
  obtain ⟨eL, ev4, S_4, E_4⟩ := own_enum m6 (hw _ (List.mem_of_getElem? (i := 2) rfl)) (hw _ (List.mem_of_getElem? (i := 14) rfl))
  have C_4 := own_efld ev4 m13
  obtain ⟨n, o, h1, h2, h3, _, L, rfl, ⟨rfl, N⟩, hq⟩ := own_law l s _ hw tables_1 i0 s.heap s.heap.size eC eH eR eK eL (Nat.le_refl _) S_0 E_0 C_0 S_1 E_1 C_1 S_2 E_2 C_2 S_3 E_3 C_3 S_4 E_4 C_4 p e ha hc hk s m _ below hf ((Spec.applies_iff_loose hf).mp happ).1 ⟨rfl, State.Warmed39.refl s, rfl⟩ trivial
  refine ⟨n, _, h1, h2, h3, hpost _ _ _ _ _ _ ⟨Cond.after_iff.mpr rfl, Cond.after_iff.mpr (eq_i res_at (Term.int_eval (1)) rfl), trivial⟩ ⟨hq.1, hq.2.1, (hq.2.2.sift fun y hy => Or.inr (N y hy)).mono (by decide) (by decide)⟩⟩
theorem main_1_1 : Claimed_1_1 := own_comes fun _ _ _ _ _ _ h hF => ⟨h.1, hF⟩
theorem main_1_2 : Claimed_1_2 := own_comes fun _ _ _ _ _ _ h hF => ⟨h.2.1, hF⟩
end Jvm.Pilot.@@N@@
namespace Jvm.Pilot.@@N@@
open Jvm Jvm.ClassFile Sem Op Lib Jvm.Free Jvm.Stand Jvm.Pilot.@@N@@.Jvm.D
/-! MADE BY PROGRAM (witnessworld.py) out of the Statement's table words and the real class files: 12 classes; the members and pool entries that the words name. The judged class is class 1, her method 1. -/
namespace start1
open Jvm.ClassFile
def u (s : String) : CpInfo := .utf8 (stringToUtf16 s)
/-- a pool by its gaps: so many unusable entries, then the entry; so many at the end -/
def gap : Nat → List CpInfo → List CpInfo
  | 0, r => r
  | n + 1, r => .unusable :: gap n r
def poolList (es : List (Nat × CpInfo)) (last : Nat) : List CpInfo := es.foldr (fun e r => gap e.1 (e.2 :: r)) (gap last [])
def pool (es : List (Nat × CpInfo)) (last : Nat) : Array CpInfo := ⟨poolList es last⟩
def fileOf (pool : Array CpInfo) (this : Nat) (attrs : Array Attribute := #[]) (ms : Array MethodInfo := #[]) (fl : Nat := 33) (sup : Nat := 0) (ifs : Array Nat := #[]) (fds : Array FieldInfo := #[]) : ClassFile where
  minorVersion := 0
  majorVersion := 65
  constantPool := pool
  accessFlags := fl
  thisClass := this
  superClass := sup
  interfaces := ifs
  fields := fds
  methods := ms
  attributes := attrs
def plain (name : String) (sup : Option ClassId) : Class where
  name := name
  kind := .ordinary
  loader := none
  accessFlags := 33
  super := sup
  interfaces := #[]
  cf := none
  fields := #[]
  methods := #[]
  instanceTypes := #[]
  staticTypes := #[]
  resolved := #[]
  callSites := []
  init := .initialized
  statics := none
  mirror := none

def pool0 : Array CpInfo := pool [(5, u "<init>"), (0, u "()V"), (1, .class_ 10), (1, u "java/lang/Object")] 113

def k0m0 : Method := { name := "<init>", desc := "()V", sig := { parameters := [], returnType := none }, accessFlags := 1, code := none }
/-- java/lang/Object -/
def k0 : Class := { plain "java/lang/Object" none with
  accessFlags := 33
  interfaces := #[]
  cf := some (fileOf pool0 8 #[] #[{ accessFlags := 1, nameIndex := 5, descriptorIndex := 6, attributes := #[] }] 33 0 #[] #[])
  fields := #[]
  methods := #[k0m0]
  instanceTypes := #[]
  staticTypes := #[]
  resolved := Array.replicate 124 none
  statics := none }

def pool1 : Array CpInfo := pool [(2, .class_ 4), (1, u "java/lang/Object"), (0, u "<init>"), (0, u "()V"), (0, .integer 2147483647), (0, .fieldref 9 10), (0, .class_ 11), (0, .nameAndType 12 13), (0, u "com/example/cairn/cairn/ccnx/ValidationType"), (0, u "CRC32C"), (0, u "Lcom/example/cairn/cairn/ccnx/ValidationType;"), (0, .fieldref 9 15), (0, .nameAndType 16 13), (0, u "HMAC_SHA256"), (0, .fieldref 9 18), (0, .nameAndType 19 13), (0, u "RSA_SHA256"), (0, .fieldref 9 21), (0, .nameAndType 22 13), (0, u "EC_SECP_256K1"), (0, .fieldref 9 24), (0, .nameAndType 25 13), (0, u "EC_SECP_384R1"), (0, .methodref 9 27), (0, .nameAndType 28 29), (0, u "signs"), (0, u "()Z"), (0, .methodref 9 31), (0, .nameAndType 32 33), (0, u "code"), (0, u "()I"), (0, .methodref 9 35), (0, .nameAndType 36 29), (0, u "hasDependentData"), (0, .class_ 38), (0, u "com/example/cairn/cairn/ccnx/ValidationTypeSignsPinLaw"), (2, u "law"), (0, u "(I)Z")] 3

def k1m0 : Method := { name := "<init>", desc := "()V", sig := { parameters := [], returnType := none }, accessFlags := 1, code := none }
def k1c1 : Code := { maxStack := 3, maxLocals := 5, code := code, exceptionTable := #[], attributes := #[] }
def k1m1 : Method := { name := "law", desc := "(I)Z", sig := { parameters := [.int], returnType := some .boolean }, accessFlags := 9, code := some k1c1 }
/-- com/example/cairn/cairn/ccnx/ValidationTypeSignsPinLaw -/
def k1 : Class := { plain "com/example/cairn/cairn/ccnx/ValidationTypeSignsPinLaw" (some 0) with
  accessFlags := 49
  interfaces := #[]
  cf := some (fileOf pool1 37 #[] #[{ accessFlags := 1, nameIndex := 5, descriptorIndex := 6, attributes := #[] }, { accessFlags := 9, nameIndex := 41, descriptorIndex := 42, attributes := #[] }] 49 2 #[] #[])
  fields := #[]
  methods := #[k1m0, k1m1]
  instanceTypes := #[]
  staticTypes := #[]
  resolved := Array.replicate 46 none
  statics := none }

def pool2 : Array CpInfo := pool [(1, .class_ 2), (0, u "java/lang/constant/Constable"), (0, .class_ 4), (0, u "java/lang/Object")] 6

/-- java/lang/constant/Constable -/
def k2 : Class := { plain "java/lang/constant/Constable" (some 0) with
  accessFlags := 1537
  interfaces := #[]
  cf := some (fileOf pool2 1 #[] #[] 1537 3 #[] #[])
  fields := #[]
  methods := #[]
  instanceTypes := #[]
  staticTypes := #[]
  resolved := Array.replicate 11 none
  statics := none }

def pool3 : Array CpInfo := pool [(1, .class_ 2), (0, u "java/lang/Comparable"), (0, .class_ 4), (0, u "java/lang/Object")] 7

/-- java/lang/Comparable -/
def k3 : Class := { plain "java/lang/Comparable" (some 0) with
  accessFlags := 1537
  interfaces := #[]
  cf := some (fileOf pool3 1 #[] #[] 1537 3 #[] #[])
  fields := #[]
  methods := #[]
  instanceTypes := #[]
  staticTypes := #[]
  resolved := Array.replicate 12 none
  statics := none }

def pool4 : Array CpInfo := pool [(1, .class_ 2), (0, u "java/io/Serializable"), (0, .class_ 4), (0, u "java/lang/Object")] 2

/-- java/io/Serializable -/
def k4 : Class := { plain "java/io/Serializable" (some 0) with
  accessFlags := 1537
  interfaces := #[]
  cf := some (fileOf pool4 1 #[] #[] 1537 3 #[] #[])
  fields := #[]
  methods := #[]
  instanceTypes := #[]
  staticTypes := #[]
  resolved := Array.replicate 7 none
  statics := none }

def pool5 : Array CpInfo := pool [(2, .class_ 4), (1, u "java/lang/Enum"), (0, u "name"), (0, u "Ljava/lang/String;"), (2, u "ordinal"), (0, u "I"), (1, .class_ 14), (1, u "java/lang/Object"), (4, u "hash"), (86, .class_ 108), (1, u "java/lang/Enum$EnumDesc"), (2, .class_ 112), (0, u "java/lang/constant/Constable"), (0, .class_ 114), (0, u "java/lang/Comparable"), (0, .class_ 116), (0, u "java/io/Serializable")] 87

/-- java/lang/Enum -/
def k5 : Class := { plain "java/lang/Enum" (some 0) with
  accessFlags := 1057
  interfaces := #[2, 3, 4]
  cf := some (fileOf pool5 2 #[.nestMembers #[106]] #[] 1057 12 #[111, 113, 115] #[{ accessFlags := 18, nameIndex := 5, descriptorIndex := 6, attributes := #[] }, { accessFlags := 18, nameIndex := 9, descriptorIndex := 10, attributes := #[] }, { accessFlags := 2, nameIndex := 19, descriptorIndex := 10, attributes := #[] }])
  fields := #[{ name := "name", type := (.object "java/lang/String"), accessFlags := 18, slot := 0, constantValue := 0 }, { name := "ordinal", type := .int, accessFlags := 18, slot := 1, constantValue := 0 }, { name := "hash", type := .int, accessFlags := 2, slot := 2, constantValue := 0 }]
  methods := #[]
  instanceTypes := #[(.object "java/lang/String"), .int, .int]
  staticTypes := #[]
  resolved := Array.replicate 204 none
  statics := none }

def pool6 : Array CpInfo := pool [(1, .class_ 2), (0, u "com/example/cairn/cairn/ccnx/ValidationType"), (0, .fieldref 1 4), (0, .nameAndType 5 6), (0, u "CRC32C"), (0, u "Lcom/example/cairn/cairn/ccnx/ValidationType;"), (2, u "HMAC_SHA256"), (0, .fieldref 1 11), (0, .nameAndType 12 6), (0, u "RSA_SHA256"), (0, .fieldref 1 14), (0, .nameAndType 15 6), (0, u "EC_SECP_256K1"), (0, .fieldref 1 17), (0, .nameAndType 18 6), (0, u "EC_SECP_384R1"), (2, u "$VALUES"), (0, u "[Lcom/example/cairn/cairn/ccnx/ValidationType;"), (6, .class_ 31), (1, u "java/lang/Enum"), (6, .fieldref 1 39), (0, .nameAndType 40 41), (0, u "code"), (0, u "I"), (2, u "word"), (0, u "Ljava/lang/String;"), (37, u "()I"), (1, u "hasDependentData"), (0, u "()Z"), (1, u "signs")] 8

def k6c0 : Code := { maxStack := 1, maxLocals := 1, code := prog_10_method_4_code, exceptionTable := #[], attributes := #[] }
def k6m0 : Method := { name := "code", desc := "()I", sig := { parameters := [], returnType := some .int }, accessFlags := 1, code := some k6c0 }
def k6c1 : Code := { maxStack := 2, maxLocals := 1, code := prog_10_method_6_code, exceptionTable := #[], attributes := #[] }
def k6m1 : Method := { name := "hasDependentData", desc := "()Z", sig := { parameters := [], returnType := some .boolean }, accessFlags := 1, code := some k6c1 }
def k6c2 : Code := { maxStack := 2, maxLocals := 1, code := prog_10_method_7_code, exceptionTable := #[], attributes := #[] }
def k6m2 : Method := { name := "signs", desc := "()Z", sig := { parameters := [], returnType := some .boolean }, accessFlags := 1, code := some k6c2 }
/-- com/example/cairn/cairn/ccnx/ValidationType -/
def k6 : Class := { plain "com/example/cairn/cairn/ccnx/ValidationType" (some 5) with
  accessFlags := 16433
  interfaces := #[]
  cf := some (fileOf pool6 1 #[] #[{ accessFlags := 1, nameIndex := 40, descriptorIndex := 83, attributes := #[] }, { accessFlags := 1, nameIndex := 85, descriptorIndex := 86, attributes := #[] }, { accessFlags := 1, nameIndex := 88, descriptorIndex := 86, attributes := #[] }] 16433 29 #[] #[{ accessFlags := 16409, nameIndex := 5, descriptorIndex := 6, attributes := #[] }, { accessFlags := 16409, nameIndex := 9, descriptorIndex := 6, attributes := #[] }, { accessFlags := 16409, nameIndex := 12, descriptorIndex := 6, attributes := #[] }, { accessFlags := 16409, nameIndex := 15, descriptorIndex := 6, attributes := #[] }, { accessFlags := 16409, nameIndex := 18, descriptorIndex := 6, attributes := #[] }, { accessFlags := 18, nameIndex := 40, descriptorIndex := 41, attributes := #[] }, { accessFlags := 18, nameIndex := 44, descriptorIndex := 45, attributes := #[] }, { accessFlags := 4122, nameIndex := 21, descriptorIndex := 22, attributes := #[] }])
  fields := #[{ name := "CRC32C", type := (.object "com/example/cairn/cairn/ccnx/ValidationType"), accessFlags := 16409, slot := 0, constantValue := 0 }, { name := "HMAC_SHA256", type := (.object "com/example/cairn/cairn/ccnx/ValidationType"), accessFlags := 16409, slot := 1, constantValue := 0 }, { name := "RSA_SHA256", type := (.object "com/example/cairn/cairn/ccnx/ValidationType"), accessFlags := 16409, slot := 2, constantValue := 0 }, { name := "EC_SECP_256K1", type := (.object "com/example/cairn/cairn/ccnx/ValidationType"), accessFlags := 16409, slot := 3, constantValue := 0 }, { name := "EC_SECP_384R1", type := (.object "com/example/cairn/cairn/ccnx/ValidationType"), accessFlags := 16409, slot := 4, constantValue := 0 }, { name := "code", type := .int, accessFlags := 18, slot := 3, constantValue := 0 }, { name := "word", type := (.object "java/lang/String"), accessFlags := 18, slot := 4, constantValue := 0 }, { name := "$VALUES", type := (.array (.object "com/example/cairn/cairn/ccnx/ValidationType")), accessFlags := 4122, slot := 5, constantValue := 0 }]
  methods := #[k6m0, k6m1, k6m2]
  instanceTypes := #[(.object "java/lang/String"), .int, .int, .int, (.object "java/lang/String")]
  staticTypes := #[(.object "com/example/cairn/cairn/ccnx/ValidationType"), (.object "com/example/cairn/cairn/ccnx/ValidationType"), (.object "com/example/cairn/cairn/ccnx/ValidationType"), (.object "com/example/cairn/cairn/ccnx/ValidationType"), (.object "com/example/cairn/cairn/ccnx/ValidationType"), (.array (.object "com/example/cairn/cairn/ccnx/ValidationType"))]
  resolved := Array.replicate 97 none
  statics := some 0 }

def pool7 : Array CpInfo := pool [(1, u "java/lang/Cloneable"), (0, .class_ 1), (0, u "java/lang/Object"), (0, .class_ 3)] 3

/-- java/lang/Cloneable -/
def k7 : Class := { plain "java/lang/Cloneable" (some 0) with
  accessFlags := 1537
  interfaces := #[]
  cf := some (fileOf pool7 2 #[] #[] 1537 4 #[] #[])
  fields := #[]
  methods := #[]
  instanceTypes := #[]
  staticTypes := #[]
  resolved := Array.replicate 8 none
  statics := none }

/-- the primitive byte -/
def k8 : Class := { plain "byte" none with kind := .primitive 'B', accessFlags := 0x411 }
/-- [B -/
def k9 : Class := { plain "[B" (some 0) with kind := .array 8 .byte, interfaces := #[7, 4], accessFlags := 1041 }

/-- the primitive int -/
def k10 : Class := { plain "int" none with kind := .primitive 'I', accessFlags := 0x411 }
/-- [I -/
def k11 : Class := { plain "[I" (some 0) with kind := .array 10 .int, interfaces := #[7, 4], accessFlags := 1041 }

def heap : Heap := #[{ cls := 6, slots := #[.ref 1, .ref 2, .ref 3, .ref 4, .ref 5, .null], vm := .statics 6 },
  { cls := 6, slots := #[.null, .int 0, .int 0, .int 2, .null], vm := .none },
  { cls := 6, slots := #[.null, .int 1, .int 0, .int 4, .null], vm := .none },
  { cls := 6, slots := #[.null, .int 2, .int 0, .int 5, .null], vm := .none },
  { cls := 6, slots := #[.null, .int 3, .int 0, .int 6, .null], vm := .none },
  { cls := 6, slots := #[.null, .int 4, .int 0, .int 7, .null], vm := .none }]
def classes : Array Class := #[k0, k1, k2, k3, k4, k5, k6, k7, k8, k9, k10, k11]
def interned : List (Array UInt16 × Addr) := []
def slotsUsed : Nat := 31
def theMethod : MethodId := ⟨1, 1⟩
def args0 : Array Value := #[.int 5]
def aboutOver (below : List Frame) : State where
  vm := { classes := classes, interned := interned.toArray }
  heap := heap
  slotsUsed := slotsUsed
  threads := #[{ frames := .invoking theMethod args0 :: below }]
def below0 : List Frame := [.native { method := ⟨0, 0⟩, args := #[] }]
def about1 : State := aboutOver below0
def p0 : Program := .bare "" "" ""
def e0 : Env := launch0.env 0 0 0
theorem w_frames : about1.frames = Frame.invoking theMethod args0 :: below0 := rfl
set_option maxRecDepth 65536 in
theorem w_args : argsFit about1.vm theMethod args0 = true := by decide +kernel
set_option maxRecDepth 65536 in
theorem w_heap : heapFits about1 = true := by decide +kernel
set_option maxRecDepth 65536 in
theorem w_runnable : about1.curStatus? = some .runnable := by decide +kernel
set_option maxRecDepth 65536 in
theorem w_alone : about1.alone = true := by decide +kernel
set_option maxRecDepth 65536 in
theorem w_named : about1.methodNamed? x = some theMethod := by decide +kernel
set_option maxRecDepth 65536 in
theorem w_hears : about1.hears theMethod below0 = true := by decide +kernel
set_option maxRecDepth 65536 in
theorem w_ripe : about1.ripe theMethod args0 below0 = true := by decide +kernel
theorem w_running : about1.status = .running := rfl
set_option maxRecDepth 65536 in
theorem w_room : about1.hasRoom e0.platform room_1 = true :=
  launch0.hasRoom_least _ room_1 (by decide +kernel) (by decide +kernel) (by decide +kernel) (by decide +kernel) (by decide +kernel) (by decide +kernel)
theorem allAtoms_all (ts : List Jvm.Cond) (a : Array Jvm.Value) (st : Jvm.State) : (allAtoms ts).before a st = ts.all (fun c => c.before a st) := by
  induction ts with
  | nil => rfl
  | cons c t ih =>
    show (Jvm.Cond.and c (allAtoms t)).before a st = _
    rw [Jvm.Cond.before_and, ih, List.all_cons]
def words1 : List Jvm.Cond := Jvm.Cond.code x code maxLocals ret :: tables_1
/-- a 'code' word, met by the world's own term for the bytes: nothing is compared byte by byte -/
theorem code_word {y : MethodName} {bytes : ByteArray} {mx : Nat} {rt : Option FieldType} {a : Array Value} {s : State} {m : MethodId} {meth : Method} {c : Code} (h1 : s.methodNamed? y = some m) (h2 : s.vm.method? m = some meth) (h3 : meth.code = some c) (h4 : c.code = bytes)
    (h5 : (c.maxLocals == mx && c.exceptionTable.isEmpty && decide (c.maxStack ≤ mostOperands) && decide (meth.sig.returnType = rt) && !meth.locks && decide (parseMethodDescriptor y.desc = some meth.sig)) = true) : (Jvm.Cond.code y bytes mx rt).before a s = true := by
  simp only [Bool.and_eq_true, beq_iff_eq, Bool.not_eq_true', decide_eq_true_eq] at h5
  obtain ⟨⟨⟨⟨⟨g1, g2⟩, g3⟩, g4⟩, g5⟩, g6⟩ := h5
  simp [Cond.before, Cond.holds, Cond.value, h1, h2, h3, h4, g1, g2, g3, g4, g5, g6]
def isCode : Jvm.Cond → Bool
  | .code _ _ _ _ => true
  | _ => false
theorem all_split {L : List Jvm.Cond} {P : Jvm.Cond → Bool} (h1 : L.all (fun c => isCode c || P c) = true) (h2 : ∀ c ∈ L.filter isCode, P c = true) : L.all P = true := by
  refine List.all_eq_true.mpr fun c hc => ?_
  have h := List.all_eq_true.mp h1 c hc
  rcases Bool.eq_false_or_eq_true (isCode c) with hi | hi
  · exact h2 c (List.mem_filter.mpr ⟨hc, hi⟩)
  · simpa [hi] using h
set_option maxRecDepth 65536 in
theorem w_c0 : (Jvm.Cond.code x code maxLocals ret).before args0 about1 = true := code_word (m := ⟨1, 1⟩) (meth := k1m1) (c := k1c1) (by decide +kernel) rfl rfl rfl (by decide +kernel)
set_option maxRecDepth 65536 in
theorem w_c1 : (Jvm.Cond.code ({ cls := "com/example/cairn/cairn/ccnx/ValidationType", name := "signs", desc := "()Z" } : Jvm.MethodName) prog_10_method_7_code (1 : Nat) (Option.some Jvm.ClassFile.FieldType.boolean)).before args0 about1 = true := code_word (m := ⟨6, 2⟩) (meth := k6m2) (c := k6c2) (by decide +kernel) rfl rfl rfl (by decide +kernel)
set_option maxRecDepth 65536 in
theorem w_c2 : (Jvm.Cond.code ({ cls := "com/example/cairn/cairn/ccnx/ValidationType", name := "code", desc := "()I" } : Jvm.MethodName) prog_10_method_4_code (1 : Nat) (Option.some Jvm.ClassFile.FieldType.int)).before args0 about1 = true := code_word (m := ⟨6, 0⟩) (meth := k6m0) (c := k6c0) (by decide +kernel) rfl rfl rfl (by decide +kernel)
set_option maxRecDepth 65536 in
theorem w_c3 : (Jvm.Cond.code ({ cls := "com/example/cairn/cairn/ccnx/ValidationType", name := "hasDependentData", desc := "()Z" } : Jvm.MethodName) prog_10_method_6_code (1 : Nat) (Option.some Jvm.ClassFile.FieldType.boolean)).before args0 about1 = true := code_word (m := ⟨6, 1⟩) (meth := k6m1) (c := k6c1) (by decide +kernel) rfl rfl rfl (by decide +kernel)
def codes1 : List Jvm.Cond := [Jvm.Cond.code x code maxLocals ret, Jvm.Cond.code ({ cls := "com/example/cairn/cairn/ccnx/ValidationType", name := "signs", desc := "()Z" } : Jvm.MethodName) prog_10_method_7_code (1 : Nat) (Option.some Jvm.ClassFile.FieldType.boolean), Jvm.Cond.code ({ cls := "com/example/cairn/cairn/ccnx/ValidationType", name := "code", desc := "()I" } : Jvm.MethodName) prog_10_method_4_code (1 : Nat) (Option.some Jvm.ClassFile.FieldType.int), Jvm.Cond.code ({ cls := "com/example/cairn/cairn/ccnx/ValidationType", name := "hasDependentData", desc := "()Z" } : Jvm.MethodName) prog_10_method_6_code (1 : Nat) (Option.some Jvm.ClassFile.FieldType.boolean)]
set_option maxRecDepth 65536 in
theorem codes_eq : words1.filter isCode = codes1 := rfl
theorem w_codes : ∀ c ∈ words1.filter isCode, c.before args0 about1 = true := by
  rw [codes_eq]
  intro c hc
  simp only [codes1, List.mem_cons, List.not_mem_nil, or_false] at hc
  rcases hc with rfl | rfl | rfl | rfl
  · exact w_c0
  · exact w_c1
  · exact w_c2
  · exact w_c3
set_option maxRecDepth 65536 in
theorem w_t1 : (words1.take 24).all (fun c => isCode c || c.before args0 about1) = true := by decide +kernel
set_option maxRecDepth 65536 in
theorem w_t2 : (words1.drop 24).all (fun c => isCode c || c.before args0 about1) = true := by decide +kernel
theorem w_tables : (allAtoms (Jvm.Cond.code x code maxLocals ret :: tables_1)).before args0 about1 = true := by
  rw [allAtoms_all]
  show words1.all (fun c => c.before args0 about1) = true
  refine all_split ?_ w_codes
  rw [← List.take_append_drop 24 words1, List.all_append, w_t1, w_t2]
  rfl
set_option maxRecDepth 65536 in
theorem w_case : (Jvm.Cond.and given_1 narrow_1).before args0 about1 = true := by decide +kernel
theorem w_applies : (headSpec (Jvm.Cond.code x code maxLocals ret :: tables_1) room_1).applies x e0.platform about1 = true :=
  (Spec.applies_iff w_frames).mpr ⟨w_running, w_runnable, w_alone, w_named, w_hears, w_ripe, w_room, w_tables⟩
theorem atStart : AtStart classFile x code maxLocals ret World_1 tables_1 room_1 Calls_1 rest_1 Pre_1 launch0 p0 e0 about1 theMethod args0 below0 :=
  ⟨lists_1, trivial, launch0.admits_env _ _ _, launch0.least_env, fairChoices_fair.cas, fairChoices_fair.clock, w_frames, w_args, w_heap, w_applies, trivial, trivial, w_case⟩
end start1
theorem witness_1 : WitnessClaimed_1 := ⟨start1.p0, start1.e0, start1.about1, start1.theMethod, start1.args0, start1.below0, start1.atStart⟩
end Jvm.Pilot.@@N@@
