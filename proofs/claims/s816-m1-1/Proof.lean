import JvmDerived
import JvmDerived.Pilot.@@N@@Statement
import JvmDerived.Pilot.@@N@@Code
set_option linter.unusedVariables false
set_option linter.unusedSimpArgs false
namespace Jvm.Pilot.@@N@@
open Jvm Jvm.ClassFile Sem Op Lib Jvm.Free Jvm.Stand Jvm.LawKit Jvm.RoadKit Bundle Jvm.Pilot.@@N@@.Jvm.D
section Own
variable {p : Program} {l : Launch} {e : Env} {R : Room} {s : State} {m : MethodId} {args : Array Value} {below : List Frame} {meth : Method} {c : Code} {T : State} {locs : List Loc} {cells slots : Nat} {Z : State} {a0 : Array Value} {h : Heap} {Q : Option Value → Heap → List Loc → Prop} {C S : Nat} {u u' : State} {F : Outcome → State → List Loc → Prop}
/-- from u the invocation comes to its end, and Q holds of what it returns, of the heap and of the places written -/
def ownFin (p : Program) (e : Env) (below : List Frame) (F : Outcome → State → List Loc → Prop) (Q : Option Value → Heap → List Loc → Prop) (u : State) : Prop :=
  ∃ t o, Steps p.tables e below u t ∧ t.status = .running ∧ Ended t below o ∧ ∃ v L, o = .returned v ∧ Q v t.heap L ∧ F o t L
/-- how it ends: at most C new cells of S slots, the tables warmer, nothing old written but at the places L -/
def ownFE (s : State) (C S : Nat) : Outcome → State → List Loc → Prop := fun o t L => FrameEnd s o t L C S
theorem ownVia (f : ∀ t, Steps p.tables e below u' t → Steps p.tables e below u t) (k : ownFin p e below F Q u') : ownFin p e below F Q u := by
  obtain ⟨t, o, h1, r⟩ := k
  exact ⟨t, o, f t h1, r⟩
theorem ownRet (X : Stand p l e R s m args below meth c T locs cells slots) (hlk : meth.locks = false) {v : Option Value} (hv : meth.sig.returnType = none → v = none)
    (f : ∀ fs, (∀ (f : JFrame) (acts : List Action), f.method = m → f.locked = none → f.entered = [] → (doReturn e (T.setTop f) acts v).1 = T.setFrames fs) → Steps p.tables e below u (T.setFrames fs))
    (hC : cells ≤ C) (hS : slots ≤ S) (hQ : Q v T.heap locs) : ownFin p e below (ownFE s C S) Q u := by
  obtain ⟨fs, hr, hrun, hended, hW, hsame⟩ := X.leave (v := v) hv hlk
  exact ⟨_, _, f fs hr, hrun, hended, v, _, rfl, hQ, ⟨_, rfl⟩, hW, hsame.mono hC hS⟩
theorem ownRetI (X : Stand p l e R s m args below meth c T locs cells slots) (hx : p.tables.exec = Jvm.exec) (hlk : meth.locks = false) (hret : meth.sig.returnType = some .int) {pc : Nat} {Ls : Array Slot} {z : Int32} {rest : List Value} (hd : decode c.code pc = .ok (.ireturn, 1)) (hC : cells ≤ C) (hS : slots ≤ S) (hQ : Q (some (.int z)) T.heap locs) : ownFin p e below (ownFE s C S) Q (T.setTop (mkF m pc Ls (.int z :: rest))) :=
  ownRet X hlk (v := some (.int z)) (fun q => by rw [hret] at q; cases q) (fun fs hr => retOut X hx hret rfl (Or.inl ⟨rfl, Or.inl rfl, z, rfl⟩) hd hr) hC hS hQ
theorem ownRetZ (X : Stand p l e R s m args below meth c T locs cells slots) (hx : p.tables.exec = Jvm.exec) (hlk : meth.locks = false) (hret : meth.sig.returnType = some .boolean) {pc : Nat} {Ls : Array Slot} {z : Int32} {rest : List Value} (hd : decode c.code pc = .ok (.ireturn, 1)) (hC : cells ≤ C) (hS : slots ≤ S) (hz : z = 0 ∨ z = 1) (hQ : Q (some (.int z)) T.heap locs) : ownFin p e below (ownFE s C S) Q (T.setTop (mkF m pc Ls (.int z :: rest))) :=
  ownRet X hlk (v := some (.int z)) (fun q => by rw [hret] at q; cases q) (fun fs hr => retOut X hx hret (by rcases hz with rfl | rfl <;> rfl) (Or.inl ⟨rfl, Or.inr (Or.inl rfl), z, rfl⟩) hd hr) hC hS hQ
theorem ownRetJ (X : Stand p l e R s m args below meth c T locs cells slots) (hx : p.tables.exec = Jvm.exec) (hlk : meth.locks = false) (hret : meth.sig.returnType = some .long) {pc : Nat} {Ls : Array Slot} {z : Int64} {rest : List Value} (hd : decode c.code pc = .ok (.lreturn, 1)) (hC : cells ≤ C) (hS : slots ≤ S) (hQ : Q (some (.long z)) T.heap locs) : ownFin p e below (ownFE s C S) Q (T.setTop (mkF m pc Ls (.long z :: rest))) :=
  ownRet X hlk (v := some (.long z)) (fun q => by rw [hret] at q; cases q) (fun fs hr => retOut X hx hret rfl (Or.inr (Or.inl ⟨rfl, rfl, z, rfl⟩)) hd hr) hC hS hQ
theorem ownRetA (X : Stand p l e R s m args below meth c T locs cells slots) (hx : p.tables.exec = Jvm.exec) (hlk : meth.locks = false) {ty : FieldType} (hret : meth.sig.returnType = some ty) (hty : ty.isReference = true) {pc : Nat} {Ls : Array Slot} {a : Addr} {rest : List Value} (hd : decode c.code pc = .ok (.areturn, 1)) (hC : cells ≤ C) (hS : slots ≤ S) (hQ : Q (some (.ref a)) T.heap locs) : ownFin p e below (ownFE s C S) Q (T.setTop (mkF m pc Ls (.ref a :: rest))) :=
  ownRet X hlk (v := some (.ref a)) (fun q => by rw [hret] at q; cases q) (fun fs hr => retOut X hx hret (by cases ty <;> first | rfl | cases hty) (Or.inr (Or.inr (Or.inr (Or.inr ⟨rfl, hty, rfl⟩)))) hd hr) hC hS hQ
theorem ownRetV (X : Stand p l e R s m args below meth c T locs cells slots) (hx : p.tables.exec = Jvm.exec) (hlk : meth.locks = false) (hret : meth.sig.returnType = none) {pc : Nat} {Ls : Array Slot} (hd : decode c.code pc = .ok (.return_, 1)) (hC : cells ≤ C) (hS : slots ≤ S) (hQ : Q none T.heap locs) : ownFin p e below (ownFE s C S) Q (T.setTop (mkF m pc Ls [])) :=
  ownRet X hlk (v := none) (fun _ => rfl) (fun fs hr => X.returnOut hx hret hd hr) hC hS hQ
/-- the contract of a method at given arguments and a given heap -/
abbrev ownMet (l : Launch) (Z : State) (y : MethodName) (bytes : ByteArray) (maxL : Nat) (ret : Option FieldType) (ws : List Jvm.Cond) (rm : Room) (as' : Array Value) (h0 : Heap) (Q : Option Value → Heap → List Loc → Prop) : Prop :=
  MetFree l y (head1 (Jvm.Cond.code y bytes maxL ret :: ws) rm) (fun a U => a = as' ∧ Z.Warmed39 U.vm ∧ U.heap = h0) (fun _ _ _ _ _ => True) (fun _ U o U' => ∃ v L, o = .returned v ∧ Q v U'.heap L ∧ FrameEnd U o U' L rm.cells rm.slots)
theorem ownBody {y : MethodName} {bytes : ByteArray} {maxL : Nat} {ret : Option FieldType} {ws : List Jvm.Cond} {rm : Room} {as' : Array Value} {h0 : Heap} (hpl : plainFor y = true)
    (H : ∀ (p : Program) (e : Env) (s : State) (m : MethodId) (below : List Frame) (meth : Method) (c : Code) (T : State), p.tables.exec = Jvm.exec → c.code = bytes → c.maxLocals = maxL → meth.sig.returnType = ret → meth.locks = false → Z.Warmed39 s.vm → s.vm.findClass y.cls = some m.cls → meth.name = y.name →
      Stand p l e rm s m as' below meth c T [] 0 0 → T.heap = h0 → ownFin p e below (ownFE s rm.cells rm.slots) Q (T.setTop (entryFrame m as' maxL))) : ownMet l Z y bytes maxL ret ws rm as' h0 Q := by
  refine MetFree.of_bodySF hpl hisR ?_
  intro p e s m args below meth c s₁ Bd hml0 hP hK
  obtain ⟨rfl, hZ, hh⟩ := hP
  exact H p e s m below meth c s₁ Bd.exec Bd.bytes hml0 Bd.returns Bd.notSynchronized hZ (findClass_of_methodNamed Bd.named) (name_of_methodNamed Bd.named Bd.method).1 (Stand.of_body Bd) (by rw [← hh, Bd.state]; rfl)
theorem ownCallS {own : String} {index : Nat} {y : MethodName} {bytes : ByteArray} {maxL : Nat} {ret : Option FieldType} {rm : Room} {as' : Array Value} {Q' : Option Value → Heap → List Loc → Prop}
    (X : Stand p l e R s m args below meth c T locs cells slots) (hx : p.tables.exec = Jvm.exec) (hZ : Z.Warmed39 s.vm) (hown : s.vm.findClass own = some m.cls)
    (w1 : (Jvm.Cond.methodLink own index y).before a0 Z = true) (w2 : (Jvm.Cond.static y).before a0 Z = true) (w3 : (Jvm.Cond.initialized y.cls).before a0 Z = true) (w4 : (Jvm.Cond.code y bytes maxL ret).before a0 Z = true)
    (hy : y.cls ≠ "java/lang/invoke/MethodHandle" ∧ y.cls ≠ "java/lang/invoke/VarHandle") (eT : T.heap = h) (hM : ownMet l Z y bytes maxL ret [] rm as' h Q')
    {pc : Nat} {Ls : Array Slot} {st : List Value} (hsz : Ls.size = c.maxLocals) (argsL rest : List Value) (hlen : ∀ sig, parseMethodDescriptor y.desc = some sig → argsL.length = sig.parameters.length)
    (hst : st = argsL.reverse ++ rest) (has : argsL.toArray = as') (W : Nat) (hW : (rest.map fun v => v.category).sum = W) (hd : decode c.code pc = .ok (.invokestatic index, 3))
    (hfr : rm.frames + 1 ≤ R.frames) (hlo : W + (maxL + 11) + rm.locals ≤ R.locals) (hce : cells + rm.cells ≤ R.cells) (hsl : slots + rm.slots ≤ R.slots)
    (K : ∀ v T' L', Stand p l e R s m args below meth c T' (locs ++ L') (cells + rm.cells) (slots + rm.slots) → Q' v T'.heap L' → ownFin p e below F Q (T'.setTop (mkF m (pc + 3) Ls (v.toList ++ rest)))) :
    ownFin p e below F Q (T.setTop (mkF m pc Ls st)) := by
  obtain ⟨v, _, ⟨T2, L2, k2, n2⟩, -, X2, ⟨Lc2, hQ2, l2, y2, z2⟩, st2⟩ := Jvm.LawKit.callS X hx (y := y) hown (mvT hZ w1) (mvT hZ w2) (mvT hZ w3) (mvT hZ w4) hy (backOf (W := W) hM hZ w4 w3 hfr hlo) (g := mkF m pc Ls st) rfl hsz (argsL := argsL) (rest := rest) hlen hst (by show 2 * 0 + _ ≤ _; omega) hd (fun _ _ => ⟨has, eT, hce, hsl⟩)
  dsimp only [Pt.U, Pt.locs, Pt.cells, Pt.slots] at X2 l2 y2 z2 st2 hQ2
  subst l2 y2 z2
  exact ownVia st2 (K v T2 Lc2 X2 hQ2)
theorem ownCallN {own : String} {index : Nat} {y : MethodName} {bytes : ByteArray} {maxL : Nat} {rm : Room} {as' : Array Value} {Q' : Option Value → Heap → List Loc → Prop}
    (X : Stand p l e R s m args below meth c T locs cells slots) (hx : p.tables.exec = Jvm.exec) (hZ : Z.Warmed39 s.vm) (hown : s.vm.findClass own = some m.cls) (hy1 : y.name = "<init>")
    (w1 : (Jvm.Cond.methodLink own index y).before a0 Z = true) (w2 : (Jvm.Cond.instanceMethod y).before a0 Z = true) (w3 : (Jvm.Cond.initialized y.cls).before a0 Z = true) (w4 : (Jvm.Cond.code y bytes maxL none).before a0 Z = true)
    (hy : y.cls ≠ "java/lang/invoke/MethodHandle" ∧ y.cls ≠ "java/lang/invoke/VarHandle") (eT : T.heap = h) (hM : ownMet l Z y bytes maxL none [] rm as' h Q')
    {pc : Nat} {Ls : Array Slot} {st : List Value} (hsz : Ls.size = c.maxLocals) (a : Addr) (argsL rest : List Value) (hlen : ∀ sig, parseMethodDescriptor y.desc = some sig → argsL.length = sig.parameters.length)
    (hst : st = argsL.reverse ++ .ref a :: rest) (has : (Value.ref a :: argsL).toArray = as') (W : Nat) (hW : (rest.map fun v => v.category).sum = W) (hd : decode c.code pc = .ok (.invokespecial index, 3))
    (hfr : rm.frames + 1 ≤ R.frames) (hlo : W + (maxL + 11) + rm.locals ≤ R.locals) (hce : cells + rm.cells ≤ R.cells) (hsl : slots + rm.slots ≤ R.slots)
    (K : ∀ v T' L', Stand p l e R s m args below meth c T' (locs ++ L') (cells + rm.cells) (slots + rm.slots) → Q' v T'.heap L' → ownFin p e below F Q (T'.setTop (mkF m (pc + 3) Ls (v.toList ++ rest)))) :
    ownFin p e below F Q (T.setTop (mkF m pc Ls st)) := by
  obtain ⟨v, _, ⟨T2, L2, k2, n2⟩, -, X2, ⟨Lc2, hQ2, l2, y2, z2⟩, st2⟩ := X.specialBack hx (y := y) hy1 hown (mvT hZ w1) (mvT hZ w2) (mvT hZ w4) hy (backOf (W := W) hM hZ w4 w3 hfr hlo) (g := mkF m pc Ls st) rfl hsz (Steps.refl _) (a := a) (argsL := argsL) (rest := rest) hlen hst (by show 2 * 0 + _ ≤ _; omega) hd (fun _ _ => ⟨has, eT, hce, hsl⟩)
  dsimp only [Pt.U, Pt.locs, Pt.cells, Pt.slots] at X2 l2 y2 z2 st2 hQ2
  subst l2 y2 z2
  exact ownVia (fun _ k => st2.trans k) (K v T2 Lc2 X2 hQ2)
theorem ownCallV {own C' : String} {index : Nat} {y z : MethodName} {bytes : ByteArray} {maxL : Nat} {ret : Option FieldType} {rm : Room} {as' : Array Value} {Q' : Option Value → Heap → List Loc → Prop}
    (X : Stand p l e R s m args below meth c T locs cells slots) (hx : p.tables.exec = Jvm.exec) (hZ : Z.Warmed39 s.vm) (hown : s.vm.findClass own = some m.cls)
    (w1 : (Jvm.Cond.methodLink own index y).before a0 Z = true) (w2 : (Jvm.Cond.declares y).before a0 Z = true) (w5 : (Jvm.Cond.selects y.cls y y).before a0 Z = true) (w6 : (Jvm.Cond.selects C' y z).before a0 Z = true) (w7 : (Jvm.Cond.instanceMethod z).before a0 Z = true) (w3 : (Jvm.Cond.initialized z.cls).before a0 Z = true) (w4 : (Jvm.Cond.code z bytes maxL ret).before a0 Z = true)
    (hy : y.cls ≠ "java/lang/invoke/MethodHandle" ∧ y.cls ≠ "java/lang/invoke/VarHandle") (eT : T.heap = h) {a : Addr} (E : Exa Z h a C') (hM : ownMet l Z z bytes maxL ret [] rm as' h Q')
    {pc : Nat} {Ls : Array Slot} {st : List Value} (hsz : Ls.size = c.maxLocals) (argsL rest : List Value) (hlen : ∀ sig, parseMethodDescriptor y.desc = some sig → argsL.length = sig.parameters.length)
    (hst : st = argsL.reverse ++ .ref a :: rest) (has : (Value.ref a :: argsL).toArray = as') (W : Nat) (hW : (rest.map fun v => v.category).sum = W) (hd : decode c.code pc = .ok (.invokevirtual index, 3))
    (hfr : rm.frames + 1 ≤ R.frames) (hlo : W + (maxL + 11) + rm.locals ≤ R.locals) (hce : cells + rm.cells ≤ R.cells) (hsl : slots + rm.slots ≤ R.slots)
    (K : ∀ v T' L', Stand p l e R s m args below meth c T' (locs ++ L') (cells + rm.cells) (slots + rm.slots) → Q' v T'.heap L' → ownFin p e below F Q (T'.setTop (mkF m (pc + 3) Ls (v.toList ++ rest)))) :
    ownFin p e below F Q (T.setTop (mkF m pc Ls st)) := by
  obtain ⟨cq, kq, qa, qb, qc⟩ := isOf hZ eT E
  obtain ⟨v, _, ⟨T2, L2, k2, n2⟩, -, X2, ⟨Lc2, hQ2, l2, y2, z2⟩, st2⟩ := X.virtualBack hx (y := y) (z := z) hown (mvT hZ w1) (mvT hZ w2) (notFace_of_selects (args := #[]) (mvT hZ w5)) (mvT hZ w6) (mvT hZ w7) hy (backOf (W := W) hM hZ w4 w3 hfr hlo) qa qc (g := mkF m pc Ls st) rfl hsz (Steps.refl _) (argsL := argsL) (rest := rest) hlen hst (by show 2 * 0 + _ ≤ _; omega) hd (fun _ _ => ⟨has, eT, hce, hsl⟩)
  dsimp only [Pt.U, Pt.locs, Pt.cells, Pt.slots] at X2 l2 y2 z2 st2 hQ2
  subst l2 y2 z2
  exact ownVia (fun _ k => st2.trans k) (K v T2 Lc2 X2 hQ2)
theorem ownLen {a : Addr} {k : ClassId} {ty : FieldType} {z : Int32} {vs : List Value} {dv : Value} (X : Stand p l e R s m args below meth c T locs cells slots) (hx : p.tables.exec = Jvm.exec) (hZ : Z.Warmed39 s.vm) (eT : T.heap = h) (A : Arv Z h a k ty z vs dv) {pc : Nat} {Ls : Array Slot} {rest : List Value} (hd : decode c.code pc = .ok (.arraylength, 1))
    (K : ownFin p e below F Q (T.setTop (mkF m (pc + 1) Ls (.int z :: rest)))) : ownFin p e below F Q (T.setTop (mkF m pc Ls (.ref a :: rest))) := by
  obtain ⟨cl, Ar, -, Sz, Nz, -, -⟩ := A
  rw [← len_of Sz Nz] at K
  exact ownVia (fun t k => X.arraylength hx (by rw [eT]; exact Ar.1) (State.isArrayOf_alike hZ.alike Ar.2.1) (g := mkF m pc Ls (.ref a :: rest)) rfl rfl hd t k) K
theorem ownBaload {a : Addr} {k : ClassId} {z j : Int32} {vs : List Value} {dv v : Value} (X : Stand p l e R s m args below meth c T locs cells slots) (hx : p.tables.exec = Jvm.exec) (hZ : Z.Warmed39 s.vm) (eT : T.heap = h) (A : Arv Z h a k .byte z vs dv) (hj : ¬ j < 0 ∧ j < z) (hv : vs.getD j.toNatClampNeg dv = v) {pc : Nat} {Ls : Array Slot} {rest : List Value} (hd : decode c.code pc = .ok (.baload, 1))
    (K : ownFin p e below F Q (T.setTop (mkF m (pc + 1) Ls (v :: rest)))) : ownFin p e below F Q (T.setTop (mkF m pc Ls (.int j :: .ref a :: rest))) := by
  obtain ⟨cl, Ar, -, Sz, Nz, H, -⟩ := A
  have hin := inb_of Sz hj
  exact ownVia (fun t k => X.baloadBytes hx (by rw [eT]; exact Ar.1) (State.isArrayOf_alike hZ.alike Ar.2.1) Ar.2.2 hin (H.at hin hv) (g := mkF m pc Ls (.int j :: .ref a :: rest)) rfl rfl hd t k) K
theorem ownIaload {a : Addr} {k : ClassId} {z j : Int32} {vs : List Value} {dv v : Value} (X : Stand p l e R s m args below meth c T locs cells slots) (hx : p.tables.exec = Jvm.exec) (hZ : Z.Warmed39 s.vm) (eT : T.heap = h) (A : Arv Z h a k .int z vs dv) (hj : ¬ j < 0 ∧ j < z) (hv : vs.getD j.toNatClampNeg dv = v) {pc : Nat} {Ls : Array Slot} {rest : List Value} (hd : decode c.code pc = .ok (.iaload, 1))
    (K : ownFin p e below F Q (T.setTop (mkF m (pc + 1) Ls (v :: rest)))) : ownFin p e below F Q (T.setTop (mkF m pc Ls (.int j :: .ref a :: rest))) := by
  obtain ⟨cl, Ar, -, Sz, Nz, H, -⟩ := A
  have hin := inb_of Sz hj
  exact ownVia (fun t k => X.iaload hx (by rw [eT]; exact Ar.1) (State.isArrayOf_alike hZ.alike Ar.2.1) Ar.2.2 hin (H.at hin hv) (g := mkF m pc Ls (.int j :: .ref a :: rest)) rfl rfl hd t k) K
theorem ownLaload {a : Addr} {k : ClassId} {z j : Int32} {vs : List Value} {dv v : Value} (X : Stand p l e R s m args below meth c T locs cells slots) (hx : p.tables.exec = Jvm.exec) (hZ : Z.Warmed39 s.vm) (eT : T.heap = h) (A : Arv Z h a k .long z vs dv) (hj : ¬ j < 0 ∧ j < z) (hv : vs.getD j.toNatClampNeg dv = v) {pc : Nat} {Ls : Array Slot} {rest : List Value} (hd : decode c.code pc = .ok (.laload, 1))
    (K : ownFin p e below F Q (T.setTop (mkF m (pc + 1) Ls (v :: rest)))) : ownFin p e below F Q (T.setTop (mkF m pc Ls (.int j :: .ref a :: rest))) := by
  obtain ⟨cl, Ar, -, Sz, Nz, H, -⟩ := A
  have hin := inb_of Sz hj
  exact ownVia (fun t k => X.laload hx (by rw [eT]; exact Ar.1) (State.isArrayOf_alike hZ.alike Ar.2.1) Ar.2.2 hin (H.at hin hv) (g := mkF m pc Ls (.int j :: .ref a :: rest)) rfl rfl hd t k) K
theorem ownBastore {a : Addr} {k : ClassId} {z j x : Int32} {vs : List Value} {dv : Value} {n0 : Nat} (X : Stand p l e R s m args below meth c T locs cells slots) (hx : p.tables.exec = Jvm.exec) (hZ : Z.Warmed39 s.vm) (eT : T.heap = h) (A : Arv Z h a k .byte z vs dv) (hj : ¬ j < 0 ∧ j < z) (i : Nat) (hi : j.toNatClampNeg = i) (hl : i < vs.length) (N : Fr n0 locs) (ge : n0 ≤ a) {pc : Nat} {Ls : Array Slot} {rest : List Value} (hd : decode c.code pc = .ok (.bastore, 1))
    (K : ∀ T' h' L', Stand p l e R s m args below meth c T' L' cells slots → T'.heap = h' → Fr n0 L' → Wr h h' a i (.int (nar .byte x)) → Arv Z h' a k .byte z (vs.set i (.int (nar .byte x))) dv → ownFin p e below F Q (T'.setTop (mkF m (pc + 1) Ls rest))) :
    ownFin p e below F Q (T.setTop (mkF m pc Ls (.int x :: .int j :: .ref a :: rest))) := by
  obtain ⟨cl, Ar, q1, Sz, Nz, H, G⟩ := A
  obtain ⟨T', h', X', e', W, st⟩ := stB X hx hZ eT Ar (j := j) (x := x) (inb_of Sz hj) (g := mkF m pc Ls (.int x :: .int j :: .ref a :: rest)) rfl rfl hd
  have N' := Fr.snoc X' N ge
  have A' := Arv.set Ar q1 Sz Nz H G (fits_nar_byte x) W i hi hl
  rw [hi] at W
  exact ownVia st (K T' h' _ X' e' N' W A')
theorem ownIastore {a : Addr} {k : ClassId} {z j x : Int32} {vs : List Value} {dv : Value} {n0 : Nat} (X : Stand p l e R s m args below meth c T locs cells slots) (hx : p.tables.exec = Jvm.exec) (hZ : Z.Warmed39 s.vm) (eT : T.heap = h) (A : Arv Z h a k .int z vs dv) (hj : ¬ j < 0 ∧ j < z) (i : Nat) (hi : j.toNatClampNeg = i) (hl : i < vs.length) (N : Fr n0 locs) (ge : n0 ≤ a) {pc : Nat} {Ls : Array Slot} {rest : List Value} (hd : decode c.code pc = .ok (.iastore, 1))
    (K : ∀ T' h' L', Stand p l e R s m args below meth c T' L' cells slots → T'.heap = h' → Fr n0 L' → Wr h h' a i (.int x) → Arv Z h' a k .int z (vs.set i (.int x)) dv → ownFin p e below F Q (T'.setTop (mkF m (pc + 1) Ls rest))) :
    ownFin p e below F Q (T.setTop (mkF m pc Ls (.int x :: .int j :: .ref a :: rest))) := by
  obtain ⟨cl, Ar, q1, Sz, Nz, H, G⟩ := A
  obtain ⟨T', h', X', e', W, st⟩ := stI X hx hZ eT Ar (j := j) (x := x) (inb_of Sz hj) (g := mkF m pc Ls (.int x :: .int j :: .ref a :: rest)) rfl rfl hd
  have N' := Fr.snoc X' N ge
  have A' := Arv.set Ar q1 Sz Nz H G rfl W i hi hl
  rw [hi] at W
  exact ownVia st (K T' h' _ X' e' N' W A')
theorem ownLastore {a : Addr} {k : ClassId} {z j : Int32} {x : Int64} {vs : List Value} {dv : Value} {n0 : Nat} (X : Stand p l e R s m args below meth c T locs cells slots) (hx : p.tables.exec = Jvm.exec) (hZ : Z.Warmed39 s.vm) (eT : T.heap = h) (A : Arv Z h a k .long z vs dv) (hj : ¬ j < 0 ∧ j < z) (i : Nat) (hi : j.toNatClampNeg = i) (hl : i < vs.length) (N : Fr n0 locs) (ge : n0 ≤ a) {pc : Nat} {Ls : Array Slot} {rest : List Value} (hd : decode c.code pc = .ok (.lastore, 1))
    (K : ∀ T' h' L', Stand p l e R s m args below meth c T' L' cells slots → T'.heap = h' → Fr n0 L' → Wr h h' a i (.long x) → Arv Z h' a k .long z (vs.set i (.long x)) dv → ownFin p e below F Q (T'.setTop (mkF m (pc + 1) Ls rest))) :
    ownFin p e below F Q (T.setTop (mkF m pc Ls (.long x :: .int j :: .ref a :: rest))) := by
  obtain ⟨cl, Ar, q1, Sz, Nz, H, G⟩ := A
  obtain ⟨T', h', X', e', W, st⟩ := stJ X hx hZ eT Ar (j := j) (x := x) (inb_of Sz hj) (g := mkF m pc Ls (.long x :: .int j :: .ref a :: rest)) rfl rfl hd
  have N' := Fr.snoc X' N ge
  have A' := Arv.set Ar q1 Sz Nz H G rfl W i hi hl
  rw [hi] at W
  exact ownVia st (K T' h' _ X' e' N' W A')
theorem ownNewP {aty : ArrayType} {n : Int32} (X : Stand p l e R s m args below meth c T locs cells slots) (hx : p.tables.exec = Jvm.exec) (hZ : Z.Warmed39 s.vm) (w : (Jvm.Cond.arrayClass (newarray.typeOf aty)).before a0 Z = true) (eT : T.heap = h) (ad : String) (had : "[" ++ (newarray.typeOf aty).toString = ad) (hn : ¬ n < 0) (N : Nat) (hN : n.toNatClampNeg = N) (cap : Nat) (hcap : N ≤ cap) (hb : cap * 8 ≤ 536870912) (hc : cells + 1 ≤ R.cells) (hl : slots + cap ≤ R.slots)
    {pc : Nat} {Ls : Array Slot} {rest : List Value} (hd : decode c.code pc = .ok (.newarray aty, 2))
    (K : ∀ T' h' k a, a = h.size → Stand p l e R s m args below meth c T' locs (cells + 1) (slots + cap) → T'.heap = h' → Ext h h' → Arv Z h' a k (newarray.typeOf aty) n (List.replicate N (defaultValue (newarray.typeOf aty))) (defaultValue (newarray.typeOf aty)) → Exa Z h' a ad → ownFin p e below F Q (T'.setTop (mkF m (pc + 2) Ls (.ref a :: rest)))) :
    ownFin p e below F Q (T.setTop (mkF m pc Ls (.int n :: rest))) := by
  obtain ⟨T', h', k, X', e', E, A, Ex, st⟩ := newPE X hx hZ w eT (g := mkF m pc Ls (.int n :: rest)) rfl hd rfl hn (cap := cap) (by rw [hN]; exact hcap) hb hc hl had
  exact ownVia st (K T' h' k _ rfl X' e' E ((Arv.new A hn).pad (pad_rep [] _ _)) Ex)
theorem ownClone {own : String} {index : Nat} {a : Addr} {k : ClassId} {ty : FieldType} {z : Int32} {vs : List Value} {dv : Value} {ad : String} (X : Stand p l e R s m args below meth c T locs cells slots) (hx : p.tables.exec = Jvm.exec) (hZ : Z.Warmed39 s.vm) (hown : s.vm.findClass own = some m.cls)
    (w1 : (Jvm.Cond.methodLink own index ⟨ad, "clone", "()Ljava/lang/Object;"⟩).before a0 Z = true) (w2 : (Jvm.Cond.sameMethod ad "java/lang/Object" "clone" "()Ljava/lang/Object;").before a0 Z = true) (w3 : (Jvm.Cond.native ⟨"java/lang/Object", "clone", "()Ljava/lang/Object;"⟩).before a0 Z = true)
    (w4 : (Jvm.Cond.instanceMethod ⟨"java/lang/Object", "clone", "()Ljava/lang/Object;"⟩).before a0 Z = true) (w5 : (Jvm.Cond.selects ad ⟨ad, "clone", "()Ljava/lang/Object;"⟩ ⟨"java/lang/Object", "clone", "()Ljava/lang/Object;"⟩).before a0 Z = true) (w6 : (Jvm.Cond.castable ad "java/lang/Cloneable").before a0 Z = true)
    (eT : T.heap = h) (A : Arv Z h a k ty z vs dv) (E : Exa Z h a ad) {pc : Nat} {Ls : Array Slot} {rest : List Value} (hsz : Ls.size = c.maxLocals) (hd : decode c.code pc = .ok (.invokevirtual index, 3)) (hf : 1 ≤ R.frames) (W : Nat) (hW : (rest.map fun v => v.category).sum = W) (hlo : W + 14 ≤ R.locals) (cap : Nat) (hcap : z.toNatClampNeg ≤ cap) (hc : cells + 1 ≤ R.cells) (hsl : slots + cap ≤ R.slots)
    (K : ∀ T' h' b, b = h.size → Stand p l e R s m args below meth c T' locs (cells + 1) (slots + cap) → T'.heap = h' → Ext h h' → Arv Z h' b k ty z vs dv → Exa Z h' b ad → ownFin p e below F Q (T'.setTop (mkF m (pc + 3) Ls (.ref b :: rest)))) :
    ownFin p e below F Q (T.setTop (mkF m pc Ls (.ref a :: rest))) := by
  obtain ⟨T', h', X', e', Ex, A', E', st⟩ := cloneH X hx hZ hown w1 w2 w3 w4 w5 w6 eT A.arh E (g := mkF m pc Ls (.ref a :: rest)) rfl hsz rfl hd hf (W := W) (by show 2 * 0 + _ ≤ _; omega) hlo hcap hc hsl
  exact ownVia st (K T' h' _ rfl X' e' Ex A' E')
theorem ownCallP {own : String} {index : Nat} {y y2 : MethodName} {bytes : ByteArray} {maxL : Nat} {ret : Option FieldType} {rm : Room} {as' : Array Value} {Q' : Option Value → Heap → List Loc → Prop} {C' : String}
    (X : Stand p l e R s m args below meth c T locs cells slots) (hx : p.tables.exec = Jvm.exec) (hZ : Z.Warmed39 s.vm) (hown : s.vm.findClass own = some m.cls)
    (w1 : (Jvm.Cond.methodLink own index y).before a0 Z = true) (w2 : (Jvm.Cond.privateMethod y).before a0 Z = true) (w5 : (Jvm.Cond.selects y2.cls y2 y2).before a0 Z = true) (hc2 : y2.cls = y.cls) (w7 : (Jvm.Cond.instanceMethod y).before a0 Z = true) (w3 : (Jvm.Cond.initialized y.cls).before a0 Z = true) (w4 : (Jvm.Cond.code y bytes maxL ret).before a0 Z = true)
    (hy : y.cls ≠ "java/lang/invoke/MethodHandle" ∧ y.cls ≠ "java/lang/invoke/VarHandle") (eT : T.heap = h) {a : Addr} (E : Exa Z h a C') (hM : ownMet l Z y bytes maxL ret [] rm as' h Q')
    {pc : Nat} {Ls : Array Slot} {st : List Value} (hsz : Ls.size = c.maxLocals) (argsL rest : List Value) (hlen : ∀ sig, parseMethodDescriptor y.desc = some sig → argsL.length = sig.parameters.length)
    (hst : st = argsL.reverse ++ .ref a :: rest) (has : (Value.ref a :: argsL).toArray = as') (W : Nat) (hW : (rest.map fun v => v.category).sum = W) (hd : decode c.code pc = .ok (.invokevirtual index, 3))
    (hfr : rm.frames + 1 ≤ R.frames) (hlo : W + (maxL + 11) + rm.locals ≤ R.locals) (hce : cells + rm.cells ≤ R.cells) (hsl : slots + rm.slots ≤ R.slots)
    (K : ∀ v T' L', Stand p l e R s m args below meth c T' (locs ++ L') (cells + rm.cells) (slots + rm.slots) → Q' v T'.heap L' → ownFin p e below F Q (T'.setTop (mkF m (pc + 3) Ls (v.toList ++ rest)))) :
    ownFin p e below F Q (T.setTop (mkF m pc Ls st)) := by
  have hpriv : s.PrivateAt y := Cond.privateMethod_at (mvP hZ w2 (args := #[]))
  have hsel2 : (Jvm.Cond.selects y2.cls y2 y2).before args s = true := mvT hZ w5
  obtain ⟨c2, r2, m2, q1, q2, q3, q4, kP, hkP, hkPi⟩ := Cond.selects_spec hsel2
  have hf2 := findClass_of_methodNamed q3
  rw [hc2] at hf2
  have hsel : (Jvm.Cond.selects y.cls y y).before args s = true := selects_self_of_private hf2 hkP hkPi hpriv (mvT hZ w7) hy
  obtain ⟨cq, qc1, qc2⟩ := E.cell
  obtain ⟨v, _, ⟨T2, L2, k2, n2⟩, -, X2, ⟨Lc2, hQ2, l2, y2', z2⟩, st2⟩ := X.privateBack hx (y := y) hown (mvT hZ w1) (mvT hZ w7) hsel hpriv (mvT hZ w4) hy (backOf (W := W) hM hZ w4 w3 hfr hlo) (g := mkF m pc Ls st) rfl hsz (Steps.refl _) (a := a) (by rw [eT]; exact qc1) qc2 (argsL := argsL) (rest := rest) hlen hst (by show 2 * 0 + _ ≤ _; omega) hd (fun _ _ => ⟨has, eT, hce, hsl⟩)
  dsimp only [Pt.U, Pt.locs, Pt.cells, Pt.slots] at X2 l2 y2' z2 st2 hQ2
  subst l2 y2' z2
  exact ownVia (fun _ k => st2.trans k) (K v T2 Lc2 X2 hQ2)
theorem ownCast {own K' : String} {index : Nat} {a : Addr} (X : Stand p l e R s m args below meth c T locs cells slots) (hx : p.tables.exec = Jvm.exec) (hZ : Z.Warmed39 s.vm) (hown : s.vm.findClass own = some m.cls) (w : (Jvm.Cond.classLink own index K').before a0 Z = true) (eT : T.heap = h) (FI : Ins Z h a K' true) {pc : Nat} {Ls : Array Slot} {rest : List Value} (hd : decode c.code pc = .ok (.checkcast index, 3))
    (K : ∀ T', Stand p l e R s m args below meth c T' locs cells slots → T'.heap = h → ownFin p e below F Q (T'.setTop (mkF m (pc + 3) Ls (.ref a :: rest)))) : ownFin p e below F Q (T.setTop (mkF m pc Ls (.ref a :: rest))) := by
  obtain ⟨T', X', e', st⟩ := castY X hx hZ hown w eT FI (g := mkF m pc Ls (.ref a :: rest)) rfl rfl hd
  exact ownVia st (K T' X' e')
theorem own_clamp {j : Int32} {n : Nat} (h : j.toInt = (n : Int)) : j.toNatClampNeg = n := by
  show j.toInt.toNat = n
  rw [h]; rfl
theorem own_nneg {j : Int32} {n : Nat} (h : j.toInt = (n : Int)) : ¬ j < 0 := fun q => by
  have := Int32.lt_iff_toInt_lt.mp q
  have k0 : (0 : Int32).toInt = 0 := by decide
  omega
theorem ownCopy {own : String} {index : Nat} {a b : Addr} {k k' : ClassId} {ty : FieldType} {z z' sp dp nn : Int32} {vs vd : List Value} {dv dd : Value} {n0 : Nat} (X : Stand p l e R s m args below meth c T locs cells slots) (hx : p.tables.exec = Jvm.exec) (hZ : Z.Warmed39 s.vm) (hown : s.vm.findClass own = some m.cls)
    (w1 : (Jvm.Cond.methodLink own index Jvm.Stand.acN).before a0 Z = true) (w2 : (Jvm.Cond.native Jvm.Stand.acN).before a0 Z = true) (w3 : (Jvm.Cond.static Jvm.Stand.acN).before a0 Z = true) (w4 : (Jvm.Cond.initialized "java/lang/System").before a0 Z = true) (eT : T.heap = h)
    (A : Arv Z h a k ty z vs dv) (B : Arv Z h b k' ty z' vd dd) (hty : refKind ty = false) (i j n lz lz' : Nat) (hi : sp.toInt = (i : Int)) (hj : dp.toInt = (j : Int)) (hn : nn.toInt = (n : Int)) (hz : z.toInt = (lz : Int)) (hz' : z'.toInt = (lz' : Int)) (h4 : i + n ≤ lz) (h5 : j + n ≤ lz') (hl : j + n ≤ vd.length) (N : Fr n0 locs) (ge : n0 ≤ b)
    {pc : Nat} {Ls : Array Slot} {rest : List Value} (hsz : Ls.size = c.maxLocals) (hd : decode c.code pc = .ok (.invokestatic index, 3)) (hf : 1 ≤ R.frames) (W : Nat) (hW : (rest.map fun v => v.category).sum = W) (hlo : W + (nativeFrameWords "java/lang/System" "arraycopy" 5 + 11) ≤ R.locals)
    (K : ∀ T' h' L', Stand p l e R s m args below meth c T' L' cells slots → T'.heap = h' → Fr n0 L' → Keep h h' [b] → Arv Z h' b k' ty z' (vd.take j ++ ((List.range n).map fun x => vs.getD (i + x) dv) ++ vd.drop (j + n)) dd → ownFin p e below F Q (T'.setTop (mkF m (pc + 3) Ls rest))) :
    ownFin p e below F Q (T.setTop (mkF m pc Ls (.int nn :: .int dp :: .ref b :: .int sp :: .ref a :: rest))) := by
  have e1 := own_clamp hi
  have e2 := own_clamp hj
  have e3 := own_clamp hn
  have e4 := own_clamp hz
  have e5 := own_clamp hz'
  obtain ⟨T', h', L', X', e', N', K', B', st⟩ := cpA X hx hZ hown w1 w2 w3 w4 eT A B (Or.inl ⟨rfl, hty⟩) (own_nneg hi) (own_nneg hj) (own_nneg hn) (by omega) (by omega) rfl (by omega) N ge (g := mkF m pc Ls (.int nn :: .int dp :: .ref b :: .int sp :: .ref a :: rest)) rfl hsz rfl hd hf (W := W) (by show 2 * 0 + _ ≤ _; omega) hlo
  rw [e1, e2, e3] at B'
  exact ownVia st (K T' h' L' X' e' N' K' B')
theorem own_lti {a b : Int32} {x y : Int} (ha : a.toInt = x) (hb : b.toInt = y) : a < b ↔ x < y := by rw [Int32.lt_iff_toInt_lt, ha, hb]
theorem own_sub {a b : Int32} {i j : Nat} (ha : a.toInt = (i : Int)) (hb : b.toInt = (j : Int)) (h : j ≤ i) : (a - b).toInt = ((i - j : Nat) : Int) := by
  have h1 := c_isub a b
  have h2 := rng32 (a - b)
  have h3 := rng32 a
  have h4 := rng32 b
  omega
theorem own_add {a b : Int32} {i j : Nat} (ha : a.toInt = (i : Int)) (hb : b.toInt = (j : Int)) (h : i + j < 2147483648) : (a + b).toInt = ((i + j : Nat) : Int) := by
  have h1 := c_iadd a b
  have h2 := rng32 (a + b)
  omega
theorem own_nlt {a b : Int32} {i j : Int} (ha : a.toInt = i) (hb : b.toInt = j) (h : j ≤ i) : ¬ a < b := fun q => by
  have := (own_lti ha hb).mp q
  omega
theorem own_enum {args : Array Value} {C n d K : String} (hx : (Jvm.Cond.exactly (.static C n d) K).value args s none s [] = some true) (wi : (Jvm.Cond.initialized C).before args s = true) (wl : (Jvm.Cond.laysStatic C n d).before args s = true) :
    ∃ a, (Term.static C n d).eval args s none [] s = some (.ref a) ∧ Sta s s.heap C n d (.ref a) ∧ Exa s s.heap a K := by
  obtain ⟨a, ev⟩ := exa_v hx
  exact ⟨a, ev, Sta.start ev (Or.inr ⟨wi, wl⟩), Exa.start ev hx⟩
theorem own_eqv {args : Array Value} {t : Term} {k : Int32} (hf : (Jvm.Cond.eq t (.int k)).value args s none s [] = some true) : t.eval args s none [] s = some (.int k) := by
  cases hv : t.eval args s none [] s with
  | none => simp [Cond.value, hv] at hf
  | some v =>
    cases v <;> simp [Cond.value, hv, Term.eval] at hf
    rw [hf]
theorem own_efld {args : Array Value} {t : Term} {a : Addr} {C n d : String} {k : Int32} (ev : t.eval args s none [] s = some (.ref a)) (hf : (Jvm.Cond.eq (.field t C n d) (.int k)).value args s none s [] = some true) : Fld s s.heap a C n d (.int k) :=
  Fld.start ((fld_at ev).symm.trans (own_eqv hf))
theorem own_iff_f {A B P : Prop} (hA : ¬ A) (h : P ↔ A ∨ B) : P ↔ B := by simpa [hA] using h
theorem own_iff_t {A B P : Prop} (hA : A) (h : P ↔ A ∨ B) : P := h.mpr (Or.inl hA)
theorem own_ref_ne {a b : Addr} (h : a ≠ b) : ¬ (Value.ref a) = .ref b := fun q => h (by cases q; rfl)
theorem own_sz {n0 : Nat} {h' : Heap} (q : n0 ≤ h.size) (E : Ext h h') : n0 ≤ h'.size := Nat.le_trans q E.1
theorem own_szW {n0 : Nat} {h' : Heap} {a : Addr} {sl : Nat} {v : Value} (q : n0 ≤ h.size) (W : Wr h h' a sl v) : n0 ≤ h'.size := by rw [W.size]; exact q
theorem own_eqi {a b : Int32} {x y : Int} (ha : a.toInt = x) (hb : b.toInt = y) : a = b ↔ x = y := by rw [← Int32.toInt_inj, ha, hb]
theorem own_ltl {a b : Int64} {x y : Int} (ha : a.toInt = x) (hb : b.toInt = y) : a < b ↔ x < y := by rw [Int64.lt_iff_toInt_lt, ha, hb]
theorem own_eql {a b : Int64} {x y : Int} (ha : a.toInt = x) (hb : b.toInt = y) : a = b ↔ x = y := by rw [← Int64.toInt_inj, ha, hb]
theorem own_getD_map {α β : Type} (f : α → β) (d : α) (xs : List α) (n : Nat) : (xs.map f).getD n (f d) = f (xs.getD n d) := by
  simp only [List.getD_eq_getElem?_getD, List.getElem?_map]
  cases xs[n]? <;> rfl
theorem own_idx {j z : Int32} {zi : Int} (hz : z.toInt = zi) (h1 : 0 ≤ j.toInt) (h2 : j.toInt < zi) : ¬ j < 0 ∧ j < z := ⟨fun q => by have := (own_lti rfl (by decide : (0 : Int32).toInt = 0)).mp q; omega, Int32.lt_iff_toInt_lt.mpr (by rw [hz]; exact h2)⟩
end Own
theorem ownCallNR {p : Program} {l : Launch} {e : Env} {R : Room} {s : State} {m : MethodId} {args : Array Value} {below : List Frame} {meth : Method} {c : Code} {T : State} {locs : List Loc} {cells slots : Nat} {Z : State} {a0 : Array Value} {h : Heap} {Q : Option Value → Heap → List Loc → Prop} {F : Outcome → State → List Loc → Prop}
    {own : String} {index : Nat} {y : MethodName} {bytes : ByteArray} {maxL : Nat} {rm : Room} {as' : Array Value} {Q' : Option Value → Heap → List Loc → Prop}
    (X : Stand p l e R s m args below meth c T locs cells slots) (hx : p.tables.exec = Jvm.exec) (hZ : Z.Warmed39 s.vm) (hown : s.vm.findClass own = some m.cls) (hy1 : y.name = "<init>")
    (w1 : (Jvm.Cond.methodRef own index y).before a0 Z = true) (w2 : (Jvm.Cond.instanceMethod y).before a0 Z = true) (w3 : (Jvm.Cond.initialized y.cls).before a0 Z = true) (w4 : (Jvm.Cond.code y bytes maxL none).before a0 Z = true)
    (hy : y.cls ≠ "java/lang/invoke/MethodHandle" ∧ y.cls ≠ "java/lang/invoke/VarHandle") (eT : T.heap = h) (hM : ownMet l Z y bytes maxL none [] rm as' h Q')
    {pc : Nat} {Ls : Array Slot} {st : List Value} (hsz : Ls.size = c.maxLocals) (a : Addr) (argsL rest : List Value) (hlen : ∀ sig, parseMethodDescriptor y.desc = some sig → argsL.length = sig.parameters.length)
    (hst : st = argsL.reverse ++ .ref a :: rest) (has : (Value.ref a :: argsL).toArray = as') (W : Nat) (hW : (rest.map fun v => v.category).sum = W) (hd : decode c.code pc = .ok (.invokespecial index, 3))
    (hfr : rm.frames + 1 ≤ R.frames) (hlo : W + (maxL + 11) + rm.locals ≤ R.locals) (hce : cells + rm.cells ≤ R.cells) (hsl : slots + rm.slots ≤ R.slots)
    (K : ∀ v T' L', Stand p l e R s m args below meth c T' (locs ++ L') (cells + rm.cells) (slots + rm.slots) → Q' v T'.heap L' → ownFin p e below F Q (T'.setTop (mkF m (pc + 3) Ls (v.toList ++ rest)))) :
    ownFin p e below F Q (T.setTop (mkF m pc Ls st)) := by
  obtain ⟨_, _, hnZ, -⟩ := Cond.instanceMethod_spec w2
  have w2s : (Jvm.Cond.instanceMethod y).before args s = true := mvT hZ w2
  have w4s : (Jvm.Cond.code y bytes maxL none).before args s = true := mvT hZ w4
  obtain ⟨obj, methO, hnO, hmO, hstO, habO⟩ := Cond.instanceMethod_spec w2s
  obtain ⟨methO', cO, hmO', -, -, -, -, -, -, hsigO⟩ := Cond.code_spec hnO w4s
  cases hmO.symm.trans hmO'
  obtain ⟨hnameMO, hdescO⟩ := name_of_methodNamed hnO hmO
  have r1 := Cond.methodRef_warmed39 hZ hnZ hy w1
  have r2 : (Jvm.Cond.methodRef own index y).before args s = true := by
    simp only [Cond.before, Cond.holds, Cond.value] at r1 ⊢
    exact r1
  have r3 := Cond.methodRef_warmed X.warmed hnO hy r2
  have hcurT : (s.setVm T.vm).vm.findClass own = some m.cls := by
    show T.vm.findClass own = _
    rw [X.warmed.alike.findClass]; exact hown
  obtain ⟨m', c', hm', hready, hfind, hnames⟩ := Cond.methodRef_named (s := s.setVm T.vm) e hcurT r3
  have hnT : (s.setVm T.vm).methodNamed? y = some obj := by rw [State.methodNamed?_setVm X.warmed.alike]; exact hnO
  cases (State.methodFound?_of_named hnT hy).symm.trans hm'
  cases (findClass_of_methodNamed hnT).symm.trans hfind
  obtain ⟨kO, hkO, hnameO⟩ := className_of_methodNamed hnO
  obtain ⟨kO2, hkO2, heO2⟩ := X.warmed.alike.2.2 _ _ hkO
  have hmO2 : T.vm.method? obj = some methO := by rw [X.warmed.alike.method?]; exact hmO
  have hfound : lookupSpecial T.vm obj.cls "<init>" methO.desc = .method obj := by
    rw [X.warmed.alike.lookupSpecial, hdescO, ← hy1]; exact lookupSpecial_of_named hnO hmO hstO
  have step : ∀ target, (∀ acts, Steps p.tables e below (doInvoke e (T.setTop (mkF m pc Ls rest)) acts obj (.ref a :: argsL).toArray).1 target) → Steps p.tables e below (T.setTop (mkF m pc Ls st)) target := by
    intro target hrest
    jvm_step X.here [hx, hd, invokespecial.wp_init (e := e) (s := T) (f := mkF m pc Ls st) (k := kO2) (meth := methO) (m := obj) (a := a) (args := argsL) (rest := rest) X.here.top hnames hready hkO2 hmO2 (by rw [hnameMO]; exact hy1) hstO habO hfound (hlen _ hsigO) hst]
    exact hrest
  obtain ⟨v, ⟨T2, L2, k2, n2⟩, X2, ⟨Lc2, hQ2, l2, y2, z2⟩, st2⟩ := backOf (W := W) (len := 3) (p := p) (e := e) (below := below) (args := args) hM hZ w4 w3 hfr hlo m meth c ⟨T, locs, cells, slots⟩ (mkF m pc Ls rest) (.invokespecial index) obj (.ref a :: argsL).toArray X rfl hsz hd (by show 2 * 0 + (rest.map fun v => v.category).sum ≤ W; omega) (X.named hnO) ⟨has, eT, hce, hsl⟩
  dsimp only [Pt.U, Pt.locs, Pt.cells, Pt.slots] at X2 l2 y2 z2 st2 hQ2
  subst l2 y2 z2
  exact ownVia (fun _ k => step _ (fun acts => by rw [doInvoke_state]; exact st2.trans k)) (K v T2 Lc2 X2 hQ2)
theorem own_lenv {s : State} {args : Array Value} {t : Term} {a : Addr} {c : Cell} {ty : FieldType} {k : Int32} (ev : t.eval args s none [] s = some (.ref a)) (A : Arr s s.heap a c ty) (hl : (Term.length t).eval args s none [] s = some (.int k)) : c.slots.size < 2 ^ 31 ∧ c.slots.size.toInt32 = k := by
  have ha : s.arrayAt? a = some c := A.fin (Vm.Alike.refl _)
  by_cases hs : c.slots.size < 2 ^ 31
  · rw [len_f ev ha hs] at hl
    exact ⟨hs, by cases hl; rfl⟩
  · simp [Term.eval, ev, ha, hs] at hl
def own_nf (bs : List Int32) : Int32 := if 0 < bs.length ∧ bs.getD 0 0 = (84 : Int32) then 1 else 0
theorem own_nf1 {bs : List Int32} (h1 : 0 < bs.length) (h2 : bs.getD 0 0 = (84 : Int32)) : own_nf bs = 1 := if_pos ⟨h1, h2⟩
theorem own_nf0 {bs : List Int32} (h : ¬ (0 < bs.length ∧ bs.getD 0 0 = (84 : Int32))) : own_nf bs = 0 := if_neg h
theorem own_b84 (q : Int32) : (nar .byte (q.toInt8.toInt32) = (84 : Int32)) ↔ (q &&& (255 : Int32)) = (84 : Int32) := by
  have e : nar .byte (q.toInt8.toInt32) = q.toInt8.toInt32.toInt8.toInt32 := rfl
  have k : (84 : Int32).toInt = 84 := by decide
  have h2 := c_i2b q
  have h3 := c_i2b q.toInt8.toInt32
  have h4 := c_mask q 255 8 (by decide) (by decide)
  rw [← Int32.toInt_inj, ← Int32.toInt_inj, k, e]
  omega
theorem own_len3 (q : Int32) : 0 ≤ ((q &&& (3 : Int32)) % (3 : Int32)).toInt ∧ ((q &&& (3 : Int32)) % (3 : Int32)).toInt ≤ 2 := by
  have a := c_mask q 3 2 (by decide) (by decide)
  have b := (c_irem (q &&& (3 : Int32)) 3 3 (by decide)).1 (by omega)
  omega
theorem d3_0 : decode jdk_30_method_1_code 0 = .ok (.aload_n 0, 1) := by decide +kernel
theorem d3_1 : decode jdk_30_method_1_code 1 = .ok (.invokespecial 1, 3) := by decide +kernel
theorem d3_4 : decode jdk_30_method_1_code 4 = .ok (.return_, 1) := by decide +kernel
theorem own_pn0 : plainName "java/lang/Record" = true := by first | (simp [plainName, overriddenIn]; done) | decide +kernel
theorem own_ef1 (m : MethodId) (a1 : Addr) : entryFrame m #[(.ref a1)] 1 = mkF m 0 #[.val (.ref a1)] [] := by first | (simp [entryFrame, mkF, argsToLocals, Value.category]; done) | rfl
def Q_own_rec (Z : State) (a1 : Addr) (h0 : Heap) (n0 : Nat)  : Option Value → Heap → List Loc → Prop := fun v h L => v = none ∧ Fr n0 L ∧ h = h0
set_option maxRecDepth 65536 in
set_option maxHeartbeats 40000000 in
theorem own_rec (l : Launch) (Z : State) (a0 : Array Value) (hw : ∀ d ∈ tables_1, d.before a0 Z = true)  (a1 : Addr) (h0 : Heap) (n0 : Nat)  (Z0 : n0 ≤ h0.size)  :
    ownMet l Z (⟨"java/lang/Record", "<init>", "()V"⟩ : MethodName) jdk_30_method_1_code 1 none [] ({ frames := 1, cells := 0, slots := 0, locals := 12 } : Room) #[(.ref a1)] h0 (Q_own_rec Z a1 h0 n0 ) := by
  refine ownBody (plainFor_of_name own_pn0) ?_
  intro p e s m below meth c T0 hx hby hml hret hlk hZ hown hnm X0 e0
  have N0 : Fr n0 [] := Fr.nil n0
  refine ownVia (fun _ k => castTop (own_ef1 m a1) k) ?_
  show ownFin _ _ _ _ _ (T0.setTop (mkF m 0 #[.val (.ref a1)] []))
  refine ownVia (fun _ k => XS.aloadN X0.here hx rfl (hb hby d3_0) rfl rfl k) ?_
  show ownFin _ _ _ _ _ (T0.setTop (mkF m 1 #[.val (.ref a1)] [(.ref a1)]))
  obtain ⟨T2, X2, e2, st2⟩ := initO X0 hx hZ hown (hw _ (List.mem_of_getElem? (i := 27) rfl)) (hw _ (List.mem_of_getElem? (i := 28) rfl)) (hw _ (List.mem_of_getElem? (i := 29) rfl)) e0 (g := (mkF m 1 #[.val (.ref a1)] [(.ref a1)])) rfl (by rw [hml]; rfl) rfl (hb hby d3_1) (by decide) (W := 0) (by show 2 * 0 + _ ≤ _; exact Nat.le_of_eq rfl) (by decide)
  refine ownVia st2 ?_
  show ownFin _ _ _ _ _ (T2.setTop (mkF m 4 #[.val (.ref a1)] []))
  refine ownRetV X2 hx hlk hret (hb hby d3_4) (by decide) (by decide) ?_
  show (Q_own_rec Z a1 h0 n0 ) none T2.heap _
  rw [e2]
  exact ⟨rfl, N0, rfl⟩
theorem d2_0 : decode prog_15_method_1_code 0 = .ok (.aload_n 0, 1) := by decide +kernel
theorem d2_1 : decode prog_15_method_1_code 1 = .ok (.invokespecial 1, 3) := by decide +kernel
theorem d2_4 : decode prog_15_method_1_code 4 = .ok (.aload_n 0, 1) := by decide +kernel
theorem d2_5 : decode prog_15_method_1_code 5 = .ok (.aload_n 1, 1) := by decide +kernel
theorem d2_6 : decode prog_15_method_1_code 6 = .ok (.putfield 7, 3) := by decide +kernel
theorem d2_9 : decode prog_15_method_1_code 9 = .ok (.return_, 1) := by decide +kernel
theorem own_pn1 : plainName "com/example/laiskas/laiskas/protocol/Message$Held" = true := by first | (simp [plainName, overriddenIn]; done) | decide +kernel
theorem own_ef3 (m : MethodId) (a1 : Addr) (a2 : Addr) : entryFrame m #[(.ref a1), (.ref a2)] 2 = mkF m 0 #[.val (.ref a1), .val (.ref a2)] [] := by first | (simp [entryFrame, mkF, argsToLocals, Value.category]; done) | rfl
def Q_own_held (Z : State) (a1 : Addr) (a2 : Addr) (h0 : Heap) (n0 : Nat)  : Option Value → Heap → List Loc → Prop := fun v h L => v = none ∧ Fr n0 L ∧ Keep h0 h [a1]
theorem own_pd0 : parseMethodDescriptor "()V" = some ⟨[], none⟩ := by decide +kernel
set_option maxRecDepth 65536 in
set_option maxHeartbeats 40000000 in
theorem own_held (l : Launch) (Z : State) (a0 : Array Value) (hw : ∀ d ∈ tables_1, d.before a0 Z = true)  (a1 : Addr) (a2 : Addr) (h0 : Heap) (n0 : Nat)  (Z0 : n0 ≤ h0.size) (F_a1_bytes : Fld Z h0 a1 "com/example/laiskas/laiskas/protocol/Message$Held" "bytes" "[B" .null) (E_a1 : Exa Z h0 a1 "com/example/laiskas/laiskas/protocol/Message$Held") (ge_a1 : n0 ≤ a1) :
    ownMet l Z (⟨"com/example/laiskas/laiskas/protocol/Message$Held", "<init>", "([B)V"⟩ : MethodName) prog_15_method_1_code 2 none [] ({ frames := 2, cells := 0, slots := 0, locals := 24 } : Room) #[(.ref a1), (.ref a2)] h0 (Q_own_held Z a1 a2 h0 n0 ) := by
  refine ownBody (plainFor_of_name own_pn1) ?_
  intro p e s m below meth c T0 hx hby hml hret hlk hZ hown hnm X0 e0
  have N0 : Fr n0 [] := Fr.nil n0
  refine ownVia (fun _ k => castTop (own_ef3 m a1 a2) k) ?_
  show ownFin _ _ _ _ _ (T0.setTop (mkF m 0 #[.val (.ref a1), .val (.ref a2)] []))
  have K0 : Keep h0 h0 [a1] := Keep.refl _ _
  refine ownVia (fun _ k => XS.aloadN X0.here hx rfl (hb hby d2_0) rfl rfl k) ?_
  show ownFin _ _ _ _ _ (T0.setTop (mkF m 1 #[.val (.ref a1), .val (.ref a2)] [(.ref a1)]))
  refine ownCallN X0 hx hZ hown rfl (hw _ (List.mem_of_getElem? (i := 22) rfl)) (hw _ (List.mem_of_getElem? (i := 23) rfl)) (hw _ (List.mem_of_getElem? (i := 25) rfl)) (hw _ (List.mem_of_getElem? (i := 26) rfl)) (by decide) e0 (own_rec l Z a0 hw a1 h0 n0 Z0) (by rw [hml]; rfl) a1 [] [] (lenOf own_pd0 rfl) rfl rfl 0 rfl (hb hby d2_1) (by decide) (by decide) (by decide) (by decide) ?_
  intro v4 T4 L4 X4 hq4
  obtain ⟨rfl, N4q, eq4⟩ := hq4
  have N4 := Fr.app N0 N4q
  have e4 : T4.heap = h0 := eq4
  show ownFin _ _ _ _ _ (T4.setTop (mkF m 4 #[.val (.ref a1), .val (.ref a2)] []))
  refine ownVia (fun _ k => XS.aloadN X4.here hx rfl (hb hby d2_4) rfl rfl k) ?_
  show ownFin _ _ _ _ _ (T4.setTop (mkF m 5 #[.val (.ref a1), .val (.ref a2)] [(.ref a1)]))
  refine ownVia (fun _ k => XS.aloadN X4.here hx rfl (hb hby d2_5) rfl rfl k) ?_
  show ownFin _ _ _ _ _ (T4.setTop (mkF m 6 #[.val (.ref a1), .val (.ref a2)] [(.ref a2), (.ref a1)]))
  obtain ⟨T5, h5, X5, e5, W5, st5⟩ := putF X4 hx hZ hown (host := "") (Or.inl (hw _ (List.mem_of_getElem? (i := 30) rfl))) Via.refl e4 F_a1_bytes E_a1 (Or.inr ⟨(hw _ (List.mem_of_getElem? (i := 31) rfl)), rfl, hnm⟩) (hw _ (List.mem_of_getElem? (i := 8) rfl)) (ty := (.array .byte)) (by decide) rfl rfl (g := (mkF m 6 #[.val (.ref a1), .val (.ref a2)] [(.ref a2), (.ref a1)])) rfl rfl (hb hby d2_6)
  have N5 := Fr.snoc X5 N4 ge_a1
  have F_a1_bytes := F_a1_bytes.same W5
  have E_a1 := E_a1.wr W5
  have K0 := K0.wr W5 (Or.inl (List.mem_of_getElem? (i := 0) rfl))
  have Z0 := own_szW Z0 W5
  refine ownVia st5 ?_
  show ownFin _ _ _ _ _ (T5.setTop (mkF m 9 #[.val (.ref a1), .val (.ref a2)] []))
  refine ownRetV X5 hx hlk hret (hb hby d2_9) (by decide) (by decide) ?_
  show (Q_own_held Z a1 a2 h0 n0 ) none T5.heap _
  rw [e5]
  exact ⟨rfl, N5, K0⟩
theorem d5_0 : decode prog_12_method_3_code 0 = .ok (.aload_n 0, 1) := by decide +kernel
theorem d5_1 : decode prog_12_method_3_code 1 = .ok (.invokespecial 18, 3) := by decide +kernel
theorem d5_4 : decode prog_12_method_3_code 4 = .ok (.aload_n 0, 1) := by decide +kernel
theorem d5_5 : decode prog_12_method_3_code 5 = .ok (.aload_n 1, 1) := by decide +kernel
theorem d5_6 : decode prog_12_method_3_code 6 = .ok (.invokevirtual 3, 3) := by decide +kernel
theorem d5_9 : decode prog_12_method_3_code 9 = .ok (.checkcast 4, 3) := by decide +kernel
theorem d5_12 : decode prog_12_method_3_code 12 = .ok (.putfield 23, 3) := by decide +kernel
theorem d5_15 : decode prog_12_method_3_code 15 = .ok (.aload_n 0, 1) := by decide +kernel
theorem d5_16 : decode prog_12_method_3_code 16 = .ok (.lload_n 2, 1) := by decide +kernel
theorem d5_17 : decode prog_12_method_3_code 17 = .ok (.putfield 26, 3) := by decide +kernel
theorem d5_20 : decode prog_12_method_3_code 20 = .ok (.aload_n 0, 1) := by decide +kernel
theorem d5_21 : decode prog_12_method_3_code 21 = .ok (.aload 4, 2) := by decide +kernel
theorem d5_23 : decode prog_12_method_3_code 23 = .ok (.invokevirtual 3, 3) := by decide +kernel
theorem d5_26 : decode prog_12_method_3_code 26 = .ok (.checkcast 4, 3) := by decide +kernel
theorem d5_29 : decode prog_12_method_3_code 29 = .ok (.putfield 30, 3) := by decide +kernel
theorem d5_32 : decode prog_12_method_3_code 32 = .ok (.aload_n 0, 1) := by decide +kernel
theorem d5_33 : decode prog_12_method_3_code 33 = .ok (.aload 5, 2) := by decide +kernel
theorem d5_35 : decode prog_12_method_3_code 35 = .ok (.putfield 33, 3) := by decide +kernel
theorem d5_38 : decode prog_12_method_3_code 38 = .ok (.aload_n 0, 1) := by decide +kernel
theorem d5_39 : decode prog_12_method_3_code 39 = .ok (.iload 6, 2) := by decide +kernel
theorem d5_41 : decode prog_12_method_3_code 41 = .ok (.putfield 37, 3) := by decide +kernel
theorem d5_44 : decode prog_12_method_3_code 44 = .ok (.return_, 1) := by decide +kernel
theorem own_pn2 : plainName "com/example/laiskas/laiskas/protocol/Message" = true := by first | (simp [plainName, overriddenIn]; done) | decide +kernel
theorem own_ef6 (m : MethodId) (a1 : Addr) (a2 : Addr) (q1 : Int64) (a3 : Addr) (a4 : Addr) (p1 : Int32) : entryFrame m #[(.ref a1), (.ref a2), (.long q1), (.ref a3), (.ref a4), (.int p1)] 7 = mkF m 0 #[.val (.ref a1), .val (.ref a2), .val (.long q1), .second, .val (.ref a3), .val (.ref a4), .val (.int p1)] [] := by first | (simp [entryFrame, mkF, argsToLocals, Value.category]; done) | rfl
def Q_own_init5 (Z : State) (a1 : Addr) (a2 : Addr) (q1 : Int64) (a3 : Addr) (a4 : Addr) (p1 : Int32) (h0 : Heap) (n0 : Nat) (k_a2 k_a3 : ClassId) (z2 z3 : Int32) (v2 v3 : List Value) (n2 n3 : Nat) : Option Value → Heap → List Loc → Prop := fun v h L => v = none ∧ Fr n0 L ∧ Keep h0 h [a1] ∧ ∃ i f, h0.size ≤ i ∧ h0.size ≤ f ∧ Fld Z h a1 "com/example/laiskas/laiskas/protocol/Message" "id" "[B" (.ref i) ∧ Fld Z h a1 "com/example/laiskas/laiskas/protocol/Message" "acceptedMillis" "J" (.long q1) ∧ Fld Z h a1 "com/example/laiskas/laiskas/protocol/Message" "flags" "[B" (.ref f) ∧ Fld Z h a1 "com/example/laiskas/laiskas/protocol/Message" "quotaMarker" "Z" (.int p1) ∧ Arv Z h i k_a2 .byte z2 v2 (.int (0 : Int32)) ∧ Exa Z h i "[B" ∧ Arv Z h f k_a3 .byte z3 v3 (.int (0 : Int32))
set_option maxRecDepth 65536 in
set_option maxHeartbeats 40000000 in
theorem own_init5 (l : Launch) (Z : State) (a0 : Array Value) (hw : ∀ d ∈ tables_1, d.before a0 Z = true)  (a1 : Addr) (a2 : Addr) (q1 : Int64) (a3 : Addr) (a4 : Addr) (p1 : Int32) (h0 : Heap) (n0 : Nat) (k_a2 k_a3 : ClassId) (z2 z3 : Int32) (v2 v3 : List Value) (n2 n3 : Nat) (Z0 : n0 ≤ h0.size) (F_a1_id : Fld Z h0 a1 "com/example/laiskas/laiskas/protocol/Message" "id" "[B" .null) (F_a1_acceptedMillis : Fld Z h0 a1 "com/example/laiskas/laiskas/protocol/Message" "acceptedMillis" "J" (.long (0 : Int64))) (F_a1_flags : Fld Z h0 a1 "com/example/laiskas/laiskas/protocol/Message" "flags" "[B" .null) (F_a1_body : Fld Z h0 a1 "com/example/laiskas/laiskas/protocol/Message" "body" "Lcom/example/laiskas/laiskas/protocol/Message$Body;" .null) (F_a1_quotaMarker : Fld Z h0 a1 "com/example/laiskas/laiskas/protocol/Message" "quotaMarker" "Z" (.int (0 : Int32))) (E_a1 : Exa Z h0 a1 "com/example/laiskas/laiskas/protocol/Message") (ge_a1 : n0 ≤ a1) (A_a2 : Arv Z h0 a2 k_a2 .byte z2 v2 (.int (0 : Int32))) (E_a2 : Exa Z h0 a2 "[B") (A_a3 : Arv Z h0 a3 k_a3 .byte z3 v3 (.int (0 : Int32))) (E_a3 : Exa Z h0 a3 "[B") (hz2 : z2.toInt = (n2 : Int)) (hz3 : z3.toInt = (n3 : Int)) (hn2 : n2 ≤ 2) (hn3 : n3 ≤ 2) (ne_a1_a2 : a1 ≠ a2) (ne_a1_a3 : a1 ≠ a3) (hp : p1 = 0 ∨ p1 = 1) :
    ownMet l Z (⟨"com/example/laiskas/laiskas/protocol/Message", "<init>", "([BJ[BLcom/example/laiskas/laiskas/protocol/Message$Body;Z)V"⟩ : MethodName) prog_12_method_3_code 7 none [] ({ frames := 1, cells := 2, slots := 4, locals := 40 } : Room) #[(.ref a1), (.ref a2), (.long q1), (.ref a3), (.ref a4), (.int p1)] h0 (Q_own_init5 Z a1 a2 q1 a3 a4 p1 h0 n0 k_a2 k_a3 z2 z3 v2 v3 n2 n3) := by
  refine ownBody (plainFor_of_name own_pn2) ?_
  intro p e s m below meth c T0 hx hby hml hret hlk hZ hown hnm X0 e0
  have N0 : Fr n0 [] := Fr.nil n0
  refine ownVia (fun _ k => castTop (own_ef6 m a1 a2 q1 a3 a4 p1) k) ?_
  show ownFin _ _ _ _ _ (T0.setTop (mkF m 0 #[.val (.ref a1), .val (.ref a2), .val (.long q1), .second, .val (.ref a3), .val (.ref a4), .val (.int p1)] []))
  have K0 : Keep h0 h0 [a1] := Keep.refl _ _
  refine ownVia (fun _ k => XS.aloadN X0.here hx rfl (hb hby d5_0) rfl rfl k) ?_
  show ownFin _ _ _ _ _ (T0.setTop (mkF m 1 #[.val (.ref a1), .val (.ref a2), .val (.long q1), .second, .val (.ref a3), .val (.ref a4), .val (.int p1)] [(.ref a1)]))
  obtain ⟨T7, X7, e7, st7⟩ := initO X0 hx hZ hown (hw _ (List.mem_of_getElem? (i := 35) rfl)) (hw _ (List.mem_of_getElem? (i := 28) rfl)) (hw _ (List.mem_of_getElem? (i := 29) rfl)) e0 (g := (mkF m 1 #[.val (.ref a1), .val (.ref a2), .val (.long q1), .second, .val (.ref a3), .val (.ref a4), .val (.int p1)] [(.ref a1)])) rfl (by rw [hml]; rfl) rfl (hb hby d5_1) (by decide) (W := 0) (by show 2 * 0 + _ ≤ _; exact Nat.le_of_eq rfl) (by decide)
  refine ownVia st7 ?_
  show ownFin _ _ _ _ _ (T7.setTop (mkF m 4 #[.val (.ref a1), .val (.ref a2), .val (.long q1), .second, .val (.ref a3), .val (.ref a4), .val (.int p1)] []))
  refine ownVia (fun _ k => XS.aloadN X7.here hx rfl (hb hby d5_4) rfl rfl k) ?_
  show ownFin _ _ _ _ _ (T7.setTop (mkF m 5 #[.val (.ref a1), .val (.ref a2), .val (.long q1), .second, .val (.ref a3), .val (.ref a4), .val (.int p1)] [(.ref a1)]))
  refine ownVia (fun _ k => XS.aloadN X7.here hx rfl (hb hby d5_5) rfl rfl k) ?_
  show ownFin _ _ _ _ _ (T7.setTop (mkF m 6 #[.val (.ref a1), .val (.ref a2), .val (.long q1), .second, .val (.ref a3), .val (.ref a4), .val (.int p1)] [(.ref a2), (.ref a1)]))
  refine ownClone X7 hx hZ hown (hw _ (List.mem_of_getElem? (i := 10) rfl)) (hw _ (List.mem_of_getElem? (i := 11) rfl)) (hw _ (List.mem_of_getElem? (i := 15) rfl)) (hw _ (List.mem_of_getElem? (i := 13) rfl)) (hw _ (List.mem_of_getElem? (i := 14) rfl)) (hw _ (List.mem_of_getElem? (i := 16) rfl)) e7 A_a2 E_a2 (by rw [hml]; rfl) (hb hby d5_6) (by decide) 1 rfl (by decide) (2) (by rw [own_clamp hz2]; exact hn2) (by decide) (by decide) ?_
  intro T8 h8 c1 g8 X8 e8 E8 A_c1 E_c1
  have ne_a1_c1 : a1 ≠ c1 := Nat.ne_of_lt (Nat.lt_of_lt_of_le E_a1.lt (Nat.le_of_eq g8.symm))
  have ne_a2_c1 : a2 ≠ c1 := Nat.ne_of_lt (Nat.lt_of_lt_of_le E_a2.lt (Nat.le_of_eq g8.symm))
  have ne_a3_c1 : a3 ≠ c1 := Nat.ne_of_lt (Nat.lt_of_lt_of_le E_a3.lt (Nat.le_of_eq g8.symm))
  have ge_c1 : n0 ≤ c1 := Nat.le_trans Z0 (Nat.le_of_eq g8.symm)
  have sz_c1 : h0.size ≤ c1 := Nat.le_trans K0.1 (Nat.le_of_eq g8.symm)
  have F_a1_id := F_a1_id.ext E8
  have F_a1_acceptedMillis := F_a1_acceptedMillis.ext E8
  have F_a1_flags := F_a1_flags.ext E8
  have F_a1_body := F_a1_body.ext E8
  have F_a1_quotaMarker := F_a1_quotaMarker.ext E8
  have E_a1 := E_a1.ext E8
  have A_a2 := A_a2.ext E8
  have E_a2 := E_a2.ext E8
  have A_a3 := A_a3.ext E8
  have E_a3 := E_a3.ext E8
  have K0 := K0.ext E8
  have Z0 := own_sz Z0 E8
  show ownFin _ _ _ _ _ (T8.setTop (mkF m 9 #[.val (.ref a1), .val (.ref a2), .val (.long q1), .second, .val (.ref a3), .val (.ref a4), .val (.int p1)] [(.ref c1), (.ref a1)]))
  refine ownCast X8 hx hZ hown (hw _ (List.mem_of_getElem? (i := 17) rfl)) e8 (Ins.self E_c1) (hb hby d5_9) ?_
  intro T9 X9 e9
  show ownFin _ _ _ _ _ (T9.setTop (mkF m 12 #[.val (.ref a1), .val (.ref a2), .val (.long q1), .second, .val (.ref a3), .val (.ref a4), .val (.int p1)] [(.ref c1), (.ref a1)]))
  obtain ⟨T10, h10, X10, e10, W10, st10⟩ := putF X9 hx hZ hown (host := "") (Or.inl (hw _ (List.mem_of_getElem? (i := 36) rfl))) Via.refl e9 F_a1_id E_a1 (Or.inr ⟨(hw _ (List.mem_of_getElem? (i := 37) rfl)), rfl, hnm⟩) (hw _ (List.mem_of_getElem? (i := 2) rfl)) (ty := (.array .byte)) (by decide) rfl rfl (g := (mkF m 12 #[.val (.ref a1), .val (.ref a2), .val (.long q1), .second, .val (.ref a3), .val (.ref a4), .val (.int p1)] [(.ref c1), (.ref a1)])) rfl rfl (hb hby d5_12)
  have N10 := Fr.snoc X10 N0 ge_a1
  have F_a1_id := F_a1_id.same W10
  have F_a1_acceptedMillis := F_a1_acceptedMillis.other W10 (Or.inr (slot_ne (Or.inr (hw _ (List.mem_of_getElem? (i := 39) rfl))) (Or.inr (hw _ (List.mem_of_getElem? (i := 37) rfl))) (by decide) (t := .long) (t' := (.array .byte)) (by decide) (by decide)))
  have F_a1_flags := F_a1_flags.other W10 (Or.inr (slot_ne (Or.inr (hw _ (List.mem_of_getElem? (i := 41) rfl))) (Or.inr (hw _ (List.mem_of_getElem? (i := 37) rfl))) (by decide) (t := (.array .byte)) (t' := (.array .byte)) (by decide) (by decide)))
  have F_a1_body := F_a1_body.other W10 (Or.inr (slot_ne (Or.inr (hw _ (List.mem_of_getElem? (i := 43) rfl))) (Or.inr (hw _ (List.mem_of_getElem? (i := 37) rfl))) (by decide) (t := (.object "com/example/laiskas/laiskas/protocol/Message$Body")) (t' := (.array .byte)) (by decide) (by decide)))
  have F_a1_quotaMarker := F_a1_quotaMarker.other W10 (Or.inr (slot_ne (Or.inr (hw _ (List.mem_of_getElem? (i := 45) rfl))) (Or.inr (hw _ (List.mem_of_getElem? (i := 37) rfl))) (by decide) (t := .boolean) (t' := (.array .byte)) (by decide) (by decide)))
  have E_a1 := E_a1.wr W10
  have A_a2 := A_a2.other W10 (Ne.symm ne_a1_a2)
  have E_a2 := E_a2.wr W10
  have A_a3 := A_a3.other W10 (Ne.symm ne_a1_a3)
  have E_a3 := E_a3.wr W10
  have A_c1 := A_c1.other W10 (Ne.symm ne_a1_c1)
  have E_c1 := E_c1.wr W10
  have K0 := K0.wr W10 (Or.inl (List.mem_of_getElem? (i := 0) rfl))
  have Z0 := own_szW Z0 W10
  refine ownVia st10 ?_
  show ownFin _ _ _ _ _ (T10.setTop (mkF m 15 #[.val (.ref a1), .val (.ref a2), .val (.long q1), .second, .val (.ref a3), .val (.ref a4), .val (.int p1)] []))
  refine ownVia (fun _ k => XS.aloadN X10.here hx rfl (hb hby d5_15) rfl rfl k) ?_
  show ownFin _ _ _ _ _ (T10.setTop (mkF m 16 #[.val (.ref a1), .val (.ref a2), .val (.long q1), .second, .val (.ref a3), .val (.ref a4), .val (.int p1)] [(.ref a1)]))
  refine ownVia (fun _ k => XS.lloadN X10.here hx rfl (hb hby d5_16) rfl k) ?_
  show ownFin _ _ _ _ _ (T10.setTop (mkF m 17 #[.val (.ref a1), .val (.ref a2), .val (.long q1), .second, .val (.ref a3), .val (.ref a4), .val (.int p1)] [(.long q1), (.ref a1)]))
  obtain ⟨T11, h11, X11, e11, W11, st11⟩ := putF X10 hx hZ hown (host := "") (Or.inl (hw _ (List.mem_of_getElem? (i := 38) rfl))) Via.refl e10 F_a1_acceptedMillis E_a1 (Or.inr ⟨(hw _ (List.mem_of_getElem? (i := 39) rfl)), rfl, hnm⟩) (hw _ (List.mem_of_getElem? (i := 2) rfl)) (ty := .long) (by decide) rfl rfl (g := (mkF m 17 #[.val (.ref a1), .val (.ref a2), .val (.long q1), .second, .val (.ref a3), .val (.ref a4), .val (.int p1)] [(.long q1), (.ref a1)])) rfl rfl (hb hby d5_17)
  have N11 := Fr.snoc X11 N10 ge_a1
  have F_a1_acceptedMillis := F_a1_acceptedMillis.same W11
  have F_a1_id := F_a1_id.other W11 (Or.inr (slot_ne (Or.inr (hw _ (List.mem_of_getElem? (i := 37) rfl))) (Or.inr (hw _ (List.mem_of_getElem? (i := 39) rfl))) (by decide) (t := (.array .byte)) (t' := .long) (by decide) (by decide)))
  have F_a1_flags := F_a1_flags.other W11 (Or.inr (slot_ne (Or.inr (hw _ (List.mem_of_getElem? (i := 41) rfl))) (Or.inr (hw _ (List.mem_of_getElem? (i := 39) rfl))) (by decide) (t := (.array .byte)) (t' := .long) (by decide) (by decide)))
  have F_a1_body := F_a1_body.other W11 (Or.inr (slot_ne (Or.inr (hw _ (List.mem_of_getElem? (i := 43) rfl))) (Or.inr (hw _ (List.mem_of_getElem? (i := 39) rfl))) (by decide) (t := (.object "com/example/laiskas/laiskas/protocol/Message$Body")) (t' := .long) (by decide) (by decide)))
  have F_a1_quotaMarker := F_a1_quotaMarker.other W11 (Or.inr (slot_ne (Or.inr (hw _ (List.mem_of_getElem? (i := 45) rfl))) (Or.inr (hw _ (List.mem_of_getElem? (i := 39) rfl))) (by decide) (t := .boolean) (t' := .long) (by decide) (by decide)))
  have E_a1 := E_a1.wr W11
  have A_a2 := A_a2.other W11 (Ne.symm ne_a1_a2)
  have E_a2 := E_a2.wr W11
  have A_a3 := A_a3.other W11 (Ne.symm ne_a1_a3)
  have E_a3 := E_a3.wr W11
  have A_c1 := A_c1.other W11 (Ne.symm ne_a1_c1)
  have E_c1 := E_c1.wr W11
  have K0 := K0.wr W11 (Or.inl (List.mem_of_getElem? (i := 0) rfl))
  have Z0 := own_szW Z0 W11
  refine ownVia st11 ?_
  show ownFin _ _ _ _ _ (T11.setTop (mkF m 20 #[.val (.ref a1), .val (.ref a2), .val (.long q1), .second, .val (.ref a3), .val (.ref a4), .val (.int p1)] []))
  refine ownVia (fun _ k => XS.aloadN X11.here hx rfl (hb hby d5_20) rfl rfl k) ?_
  show ownFin _ _ _ _ _ (T11.setTop (mkF m 21 #[.val (.ref a1), .val (.ref a2), .val (.long q1), .second, .val (.ref a3), .val (.ref a4), .val (.int p1)] [(.ref a1)]))
  refine ownVia (fun _ k => XS.aload X11.here hx rfl (hb hby d5_21) rfl rfl k) ?_
  show ownFin _ _ _ _ _ (T11.setTop (mkF m 23 #[.val (.ref a1), .val (.ref a2), .val (.long q1), .second, .val (.ref a3), .val (.ref a4), .val (.int p1)] [(.ref a3), (.ref a1)]))
  refine ownClone X11 hx hZ hown (hw _ (List.mem_of_getElem? (i := 10) rfl)) (hw _ (List.mem_of_getElem? (i := 11) rfl)) (hw _ (List.mem_of_getElem? (i := 15) rfl)) (hw _ (List.mem_of_getElem? (i := 13) rfl)) (hw _ (List.mem_of_getElem? (i := 14) rfl)) (hw _ (List.mem_of_getElem? (i := 16) rfl)) e11 A_a3 E_a3 (by rw [hml]; rfl) (hb hby d5_23) (by decide) 1 rfl (by decide) (2) (by rw [own_clamp hz3]; exact hn3) (by decide) (by decide) ?_
  intro T12 h12 c2 g12 X12 e12 E12 A_c2 E_c2
  have ne_a1_c2 : a1 ≠ c2 := Nat.ne_of_lt (Nat.lt_of_lt_of_le E_a1.lt (Nat.le_of_eq g12.symm))
  have ne_a2_c2 : a2 ≠ c2 := Nat.ne_of_lt (Nat.lt_of_lt_of_le E_a2.lt (Nat.le_of_eq g12.symm))
  have ne_a3_c2 : a3 ≠ c2 := Nat.ne_of_lt (Nat.lt_of_lt_of_le E_a3.lt (Nat.le_of_eq g12.symm))
  have ne_c1_c2 : c1 ≠ c2 := Nat.ne_of_lt (Nat.lt_of_lt_of_le E_c1.lt (Nat.le_of_eq g12.symm))
  have ge_c2 : n0 ≤ c2 := Nat.le_trans Z0 (Nat.le_of_eq g12.symm)
  have sz_c2 : h0.size ≤ c2 := Nat.le_trans K0.1 (Nat.le_of_eq g12.symm)
  have F_a1_id := F_a1_id.ext E12
  have F_a1_acceptedMillis := F_a1_acceptedMillis.ext E12
  have F_a1_flags := F_a1_flags.ext E12
  have F_a1_body := F_a1_body.ext E12
  have F_a1_quotaMarker := F_a1_quotaMarker.ext E12
  have E_a1 := E_a1.ext E12
  have A_a2 := A_a2.ext E12
  have E_a2 := E_a2.ext E12
  have A_a3 := A_a3.ext E12
  have E_a3 := E_a3.ext E12
  have A_c1 := A_c1.ext E12
  have E_c1 := E_c1.ext E12
  have K0 := K0.ext E12
  have Z0 := own_sz Z0 E12
  show ownFin _ _ _ _ _ (T12.setTop (mkF m 26 #[.val (.ref a1), .val (.ref a2), .val (.long q1), .second, .val (.ref a3), .val (.ref a4), .val (.int p1)] [(.ref c2), (.ref a1)]))
  refine ownCast X12 hx hZ hown (hw _ (List.mem_of_getElem? (i := 17) rfl)) e12 (Ins.self E_c2) (hb hby d5_26) ?_
  intro T13 X13 e13
  show ownFin _ _ _ _ _ (T13.setTop (mkF m 29 #[.val (.ref a1), .val (.ref a2), .val (.long q1), .second, .val (.ref a3), .val (.ref a4), .val (.int p1)] [(.ref c2), (.ref a1)]))
  obtain ⟨T14, h14, X14, e14, W14, st14⟩ := putF X13 hx hZ hown (host := "") (Or.inl (hw _ (List.mem_of_getElem? (i := 40) rfl))) Via.refl e13 F_a1_flags E_a1 (Or.inr ⟨(hw _ (List.mem_of_getElem? (i := 41) rfl)), rfl, hnm⟩) (hw _ (List.mem_of_getElem? (i := 2) rfl)) (ty := (.array .byte)) (by decide) rfl rfl (g := (mkF m 29 #[.val (.ref a1), .val (.ref a2), .val (.long q1), .second, .val (.ref a3), .val (.ref a4), .val (.int p1)] [(.ref c2), (.ref a1)])) rfl rfl (hb hby d5_29)
  have N14 := Fr.snoc X14 N11 ge_a1
  have F_a1_flags := F_a1_flags.same W14
  have F_a1_id := F_a1_id.other W14 (Or.inr (slot_ne (Or.inr (hw _ (List.mem_of_getElem? (i := 37) rfl))) (Or.inr (hw _ (List.mem_of_getElem? (i := 41) rfl))) (by decide) (t := (.array .byte)) (t' := (.array .byte)) (by decide) (by decide)))
  have F_a1_acceptedMillis := F_a1_acceptedMillis.other W14 (Or.inr (slot_ne (Or.inr (hw _ (List.mem_of_getElem? (i := 39) rfl))) (Or.inr (hw _ (List.mem_of_getElem? (i := 41) rfl))) (by decide) (t := .long) (t' := (.array .byte)) (by decide) (by decide)))
  have F_a1_body := F_a1_body.other W14 (Or.inr (slot_ne (Or.inr (hw _ (List.mem_of_getElem? (i := 43) rfl))) (Or.inr (hw _ (List.mem_of_getElem? (i := 41) rfl))) (by decide) (t := (.object "com/example/laiskas/laiskas/protocol/Message$Body")) (t' := (.array .byte)) (by decide) (by decide)))
  have F_a1_quotaMarker := F_a1_quotaMarker.other W14 (Or.inr (slot_ne (Or.inr (hw _ (List.mem_of_getElem? (i := 45) rfl))) (Or.inr (hw _ (List.mem_of_getElem? (i := 41) rfl))) (by decide) (t := .boolean) (t' := (.array .byte)) (by decide) (by decide)))
  have E_a1 := E_a1.wr W14
  have A_a2 := A_a2.other W14 (Ne.symm ne_a1_a2)
  have E_a2 := E_a2.wr W14
  have A_a3 := A_a3.other W14 (Ne.symm ne_a1_a3)
  have E_a3 := E_a3.wr W14
  have A_c1 := A_c1.other W14 (Ne.symm ne_a1_c1)
  have E_c1 := E_c1.wr W14
  have A_c2 := A_c2.other W14 (Ne.symm ne_a1_c2)
  have E_c2 := E_c2.wr W14
  have K0 := K0.wr W14 (Or.inl (List.mem_of_getElem? (i := 0) rfl))
  have Z0 := own_szW Z0 W14
  refine ownVia st14 ?_
  show ownFin _ _ _ _ _ (T14.setTop (mkF m 32 #[.val (.ref a1), .val (.ref a2), .val (.long q1), .second, .val (.ref a3), .val (.ref a4), .val (.int p1)] []))
  refine ownVia (fun _ k => XS.aloadN X14.here hx rfl (hb hby d5_32) rfl rfl k) ?_
  show ownFin _ _ _ _ _ (T14.setTop (mkF m 33 #[.val (.ref a1), .val (.ref a2), .val (.long q1), .second, .val (.ref a3), .val (.ref a4), .val (.int p1)] [(.ref a1)]))
  refine ownVia (fun _ k => XS.aload X14.here hx rfl (hb hby d5_33) rfl rfl k) ?_
  show ownFin _ _ _ _ _ (T14.setTop (mkF m 35 #[.val (.ref a1), .val (.ref a2), .val (.long q1), .second, .val (.ref a3), .val (.ref a4), .val (.int p1)] [(.ref a4), (.ref a1)]))
  obtain ⟨T15, h15, X15, e15, W15, st15⟩ := putF X14 hx hZ hown (host := "") (Or.inl (hw _ (List.mem_of_getElem? (i := 42) rfl))) Via.refl e14 F_a1_body E_a1 (Or.inr ⟨(hw _ (List.mem_of_getElem? (i := 43) rfl)), rfl, hnm⟩) (hw _ (List.mem_of_getElem? (i := 2) rfl)) (ty := (.object "com/example/laiskas/laiskas/protocol/Message$Body")) (by decide) rfl rfl (g := (mkF m 35 #[.val (.ref a1), .val (.ref a2), .val (.long q1), .second, .val (.ref a3), .val (.ref a4), .val (.int p1)] [(.ref a4), (.ref a1)])) rfl rfl (hb hby d5_35)
  have N15 := Fr.snoc X15 N14 ge_a1
  have F_a1_body := F_a1_body.same W15
  have F_a1_id := F_a1_id.other W15 (Or.inr (slot_ne (Or.inr (hw _ (List.mem_of_getElem? (i := 37) rfl))) (Or.inr (hw _ (List.mem_of_getElem? (i := 43) rfl))) (by decide) (t := (.array .byte)) (t' := (.object "com/example/laiskas/laiskas/protocol/Message$Body")) (by decide) (by decide)))
  have F_a1_acceptedMillis := F_a1_acceptedMillis.other W15 (Or.inr (slot_ne (Or.inr (hw _ (List.mem_of_getElem? (i := 39) rfl))) (Or.inr (hw _ (List.mem_of_getElem? (i := 43) rfl))) (by decide) (t := .long) (t' := (.object "com/example/laiskas/laiskas/protocol/Message$Body")) (by decide) (by decide)))
  have F_a1_flags := F_a1_flags.other W15 (Or.inr (slot_ne (Or.inr (hw _ (List.mem_of_getElem? (i := 41) rfl))) (Or.inr (hw _ (List.mem_of_getElem? (i := 43) rfl))) (by decide) (t := (.array .byte)) (t' := (.object "com/example/laiskas/laiskas/protocol/Message$Body")) (by decide) (by decide)))
  have F_a1_quotaMarker := F_a1_quotaMarker.other W15 (Or.inr (slot_ne (Or.inr (hw _ (List.mem_of_getElem? (i := 45) rfl))) (Or.inr (hw _ (List.mem_of_getElem? (i := 43) rfl))) (by decide) (t := .boolean) (t' := (.object "com/example/laiskas/laiskas/protocol/Message$Body")) (by decide) (by decide)))
  have E_a1 := E_a1.wr W15
  have A_a2 := A_a2.other W15 (Ne.symm ne_a1_a2)
  have E_a2 := E_a2.wr W15
  have A_a3 := A_a3.other W15 (Ne.symm ne_a1_a3)
  have E_a3 := E_a3.wr W15
  have A_c1 := A_c1.other W15 (Ne.symm ne_a1_c1)
  have E_c1 := E_c1.wr W15
  have A_c2 := A_c2.other W15 (Ne.symm ne_a1_c2)
  have E_c2 := E_c2.wr W15
  have K0 := K0.wr W15 (Or.inl (List.mem_of_getElem? (i := 0) rfl))
  have Z0 := own_szW Z0 W15
  refine ownVia st15 ?_
  show ownFin _ _ _ _ _ (T15.setTop (mkF m 38 #[.val (.ref a1), .val (.ref a2), .val (.long q1), .second, .val (.ref a3), .val (.ref a4), .val (.int p1)] []))
  refine ownVia (fun _ k => XS.aloadN X15.here hx rfl (hb hby d5_38) rfl rfl k) ?_
  show ownFin _ _ _ _ _ (T15.setTop (mkF m 39 #[.val (.ref a1), .val (.ref a2), .val (.long q1), .second, .val (.ref a3), .val (.ref a4), .val (.int p1)] [(.ref a1)]))
  refine ownVia (fun _ k => XS.iload X15.here hx rfl (hb hby d5_39) rfl k) ?_
  show ownFin _ _ _ _ _ (T15.setTop (mkF m 41 #[.val (.ref a1), .val (.ref a2), .val (.long q1), .second, .val (.ref a3), .val (.ref a4), .val (.int p1)] [(.int p1), (.ref a1)]))
  obtain ⟨T16, h16, X16, e16, W16, st16⟩ := putFN X15 hx hZ hown (hw _ (List.mem_of_getElem? (i := 44) rfl)) Via.refl e15 F_a1_quotaMarker E_a1 (Or.inr ⟨(hw _ (List.mem_of_getElem? (i := 45) rfl)), rfl, hnm⟩) (hw _ (List.mem_of_getElem? (i := 2) rfl)) (ty := .boolean) (v' := (.int p1)) (by decide) (by rcases hp with rfl | rfl <;> rfl) (by rcases hp with rfl | rfl <;> rfl) (g := (mkF m 41 #[.val (.ref a1), .val (.ref a2), .val (.long q1), .second, .val (.ref a3), .val (.ref a4), .val (.int p1)] [(.int p1), (.ref a1)])) rfl rfl (hb hby d5_41)
  have N16 := Fr.snoc X16 N15 ge_a1
  have F_a1_quotaMarker := F_a1_quotaMarker.same W16
  have F_a1_id := F_a1_id.other W16 (Or.inr (slot_ne (Or.inr (hw _ (List.mem_of_getElem? (i := 37) rfl))) (Or.inr (hw _ (List.mem_of_getElem? (i := 45) rfl))) (by decide) (t := (.array .byte)) (t' := .boolean) (by decide) (by decide)))
  have F_a1_acceptedMillis := F_a1_acceptedMillis.other W16 (Or.inr (slot_ne (Or.inr (hw _ (List.mem_of_getElem? (i := 39) rfl))) (Or.inr (hw _ (List.mem_of_getElem? (i := 45) rfl))) (by decide) (t := .long) (t' := .boolean) (by decide) (by decide)))
  have F_a1_flags := F_a1_flags.other W16 (Or.inr (slot_ne (Or.inr (hw _ (List.mem_of_getElem? (i := 41) rfl))) (Or.inr (hw _ (List.mem_of_getElem? (i := 45) rfl))) (by decide) (t := (.array .byte)) (t' := .boolean) (by decide) (by decide)))
  have F_a1_body := F_a1_body.other W16 (Or.inr (slot_ne (Or.inr (hw _ (List.mem_of_getElem? (i := 43) rfl))) (Or.inr (hw _ (List.mem_of_getElem? (i := 45) rfl))) (by decide) (t := (.object "com/example/laiskas/laiskas/protocol/Message$Body")) (t' := .boolean) (by decide) (by decide)))
  have E_a1 := E_a1.wr W16
  have A_a2 := A_a2.other W16 (Ne.symm ne_a1_a2)
  have E_a2 := E_a2.wr W16
  have A_a3 := A_a3.other W16 (Ne.symm ne_a1_a3)
  have E_a3 := E_a3.wr W16
  have A_c1 := A_c1.other W16 (Ne.symm ne_a1_c1)
  have E_c1 := E_c1.wr W16
  have A_c2 := A_c2.other W16 (Ne.symm ne_a1_c2)
  have E_c2 := E_c2.wr W16
  have K0 := K0.wr W16 (Or.inl (List.mem_of_getElem? (i := 0) rfl))
  have Z0 := own_szW Z0 W16
  refine ownVia st16 ?_
  show ownFin _ _ _ _ _ (T16.setTop (mkF m 44 #[.val (.ref a1), .val (.ref a2), .val (.long q1), .second, .val (.ref a3), .val (.ref a4), .val (.int p1)] []))
  refine ownRetV X16 hx hlk hret (hb hby d5_44) (by decide) (by decide) ?_
  show (Q_own_init5 Z a1 a2 q1 a3 a4 p1 h0 n0 k_a2 k_a3 z2 z3 v2 v3 n2 n3) none T16.heap _
  rw [e16]
  exact ⟨rfl, N16, K0, c1, c2, sz_c1, sz_c2, F_a1_id, F_a1_acceptedMillis, F_a1_flags, F_a1_quotaMarker, A_c1, E_c1, A_c2⟩
theorem d1_0 : decode prog_12_method_1_code 0 = .ok (.aload_n 0, 1) := by decide +kernel
theorem d1_1 : decode prog_12_method_1_code 1 = .ok (.aload_n 1, 1) := by decide +kernel
theorem d1_2 : decode prog_12_method_1_code 2 = .ok (.lload_n 2, 1) := by decide +kernel
theorem d1_3 : decode prog_12_method_1_code 3 = .ok (.aload 4, 2) := by decide +kernel
theorem d1_5 : decode prog_12_method_1_code 5 = .ok (.new 1, 3) := by decide +kernel
theorem d1_8 : decode prog_12_method_1_code 8 = .ok (.dup, 1) := by decide +kernel
theorem d1_9 : decode prog_12_method_1_code 9 = .ok (.aload 5, 2) := by decide +kernel
theorem d1_11 : decode prog_12_method_1_code 11 = .ok (.invokevirtual 3, 3) := by decide +kernel
theorem d1_14 : decode prog_12_method_1_code 14 = .ok (.checkcast 4, 3) := by decide +kernel
theorem d1_17 : decode prog_12_method_1_code 17 = .ok (.invokespecial 9, 3) := by decide +kernel
theorem d1_20 : decode prog_12_method_1_code 20 = .ok (.iconst 0, 1) := by decide +kernel
theorem d1_21 : decode prog_12_method_1_code 21 = .ok (.invokespecial 13, 3) := by decide +kernel
theorem d1_24 : decode prog_12_method_1_code 24 = .ok (.return_, 1) := by decide +kernel
theorem own_ef17 (m : MethodId) (a1 : Addr) (a2 : Addr) (q1 : Int64) (a3 : Addr) (a4 : Addr) : entryFrame m #[(.ref a1), (.ref a2), (.long q1), (.ref a3), (.ref a4)] 6 = mkF m 0 #[.val (.ref a1), .val (.ref a2), .val (.long q1), .second, .val (.ref a3), .val (.ref a4)] [] := by first | (simp [entryFrame, mkF, argsToLocals, Value.category]; done) | rfl
def Q_own_init4 (Z : State) (a1 : Addr) (a2 : Addr) (q1 : Int64) (a3 : Addr) (a4 : Addr) (h0 : Heap) (n0 : Nat) (k_a2 k_a3 : ClassId) (z2 z3 : Int32) (v2 v3 : List Value) (n2 n3 : Nat) (k_a4 : ClassId) (z4 : Int32) (v4 : List Value) (n4 : Nat) : Option Value → Heap → List Loc → Prop := fun v h L => v = none ∧ Fr n0 L ∧ Keep h0 h [a1] ∧ ∃ i f, h0.size ≤ i ∧ h0.size ≤ f ∧ Fld Z h a1 "com/example/laiskas/laiskas/protocol/Message" "id" "[B" (.ref i) ∧ Fld Z h a1 "com/example/laiskas/laiskas/protocol/Message" "acceptedMillis" "J" (.long q1) ∧ Fld Z h a1 "com/example/laiskas/laiskas/protocol/Message" "flags" "[B" (.ref f) ∧ Fld Z h a1 "com/example/laiskas/laiskas/protocol/Message" "quotaMarker" "Z" (.int 0) ∧ Arv Z h i k_a2 .byte z2 v2 (.int (0 : Int32)) ∧ Exa Z h i "[B" ∧ Arv Z h f k_a3 .byte z3 v3 (.int (0 : Int32))
theorem own_pd1 : parseMethodDescriptor "([B)V" = some ⟨[(.array .byte)], none⟩ := by decide +kernel
theorem own_pd2 : parseMethodDescriptor "([BJ[BLcom/example/laiskas/laiskas/protocol/Message$Body;Z)V" = some ⟨[(.array .byte), .long, (.array .byte), (.object "com/example/laiskas/laiskas/protocol/Message$Body"), .boolean], none⟩ := by decide +kernel
set_option maxRecDepth 65536 in
set_option maxHeartbeats 40000000 in
theorem own_init4 (l : Launch) (Z : State) (a0 : Array Value) (hw : ∀ d ∈ tables_1, d.before a0 Z = true)  (a1 : Addr) (a2 : Addr) (q1 : Int64) (a3 : Addr) (a4 : Addr) (h0 : Heap) (n0 : Nat) (k_a2 k_a3 : ClassId) (z2 z3 : Int32) (v2 v3 : List Value) (n2 n3 : Nat) (k_a4 : ClassId) (z4 : Int32) (v4 : List Value) (n4 : Nat) (Z0 : n0 ≤ h0.size) (F_a1_id : Fld Z h0 a1 "com/example/laiskas/laiskas/protocol/Message" "id" "[B" .null) (F_a1_acceptedMillis : Fld Z h0 a1 "com/example/laiskas/laiskas/protocol/Message" "acceptedMillis" "J" (.long (0 : Int64))) (F_a1_flags : Fld Z h0 a1 "com/example/laiskas/laiskas/protocol/Message" "flags" "[B" .null) (F_a1_body : Fld Z h0 a1 "com/example/laiskas/laiskas/protocol/Message" "body" "Lcom/example/laiskas/laiskas/protocol/Message$Body;" .null) (F_a1_quotaMarker : Fld Z h0 a1 "com/example/laiskas/laiskas/protocol/Message" "quotaMarker" "Z" (.int (0 : Int32))) (E_a1 : Exa Z h0 a1 "com/example/laiskas/laiskas/protocol/Message") (ge_a1 : n0 ≤ a1) (A_a2 : Arv Z h0 a2 k_a2 .byte z2 v2 (.int (0 : Int32))) (E_a2 : Exa Z h0 a2 "[B") (A_a3 : Arv Z h0 a3 k_a3 .byte z3 v3 (.int (0 : Int32))) (E_a3 : Exa Z h0 a3 "[B") (hz2 : z2.toInt = (n2 : Int)) (hz3 : z3.toInt = (n3 : Int)) (hn2 : n2 ≤ 2) (hn3 : n3 ≤ 2) (ne_a1_a2 : a1 ≠ a2) (ne_a1_a3 : a1 ≠ a3) (A_a4 : Arv Z h0 a4 k_a4 .byte z4 v4 (.int (0 : Int32))) (E_a4 : Exa Z h0 a4 "[B") (hz4 : z4.toInt = (n4 : Int)) (hn4 : n4 ≤ 2) (ne_a1_a4 : a1 ≠ a4) :
    ownMet l Z (⟨"com/example/laiskas/laiskas/protocol/Message", "<init>", "([BJ[B[B)V"⟩ : MethodName) prog_12_method_1_code 6 none [] ({ frames := 3, cells := 4, slots := 7, locals := 80 } : Room) #[(.ref a1), (.ref a2), (.long q1), (.ref a3), (.ref a4)] h0 (Q_own_init4 Z a1 a2 q1 a3 a4 h0 n0 k_a2 k_a3 z2 z3 v2 v3 n2 n3 k_a4 z4 v4 n4) := by
  refine ownBody (plainFor_of_name own_pn2) ?_
  intro p e s m below meth c T0 hx hby hml hret hlk hZ hown hnm X0 e0
  have N0 : Fr n0 [] := Fr.nil n0
  refine ownVia (fun _ k => castTop (own_ef17 m a1 a2 q1 a3 a4) k) ?_
  show ownFin _ _ _ _ _ (T0.setTop (mkF m 0 #[.val (.ref a1), .val (.ref a2), .val (.long q1), .second, .val (.ref a3), .val (.ref a4)] []))
  have K0 : Keep h0 h0 [a1] := Keep.refl _ _
  refine ownVia (fun _ k => XS.aloadN X0.here hx rfl (hb hby d1_0) rfl rfl k) ?_
  show ownFin _ _ _ _ _ (T0.setTop (mkF m 1 #[.val (.ref a1), .val (.ref a2), .val (.long q1), .second, .val (.ref a3), .val (.ref a4)] [(.ref a1)]))
  refine ownVia (fun _ k => XS.aloadN X0.here hx rfl (hb hby d1_1) rfl rfl k) ?_
  show ownFin _ _ _ _ _ (T0.setTop (mkF m 2 #[.val (.ref a1), .val (.ref a2), .val (.long q1), .second, .val (.ref a3), .val (.ref a4)] [(.ref a2), (.ref a1)]))
  refine ownVia (fun _ k => XS.lloadN X0.here hx rfl (hb hby d1_2) rfl k) ?_
  show ownFin _ _ _ _ _ (T0.setTop (mkF m 3 #[.val (.ref a1), .val (.ref a2), .val (.long q1), .second, .val (.ref a3), .val (.ref a4)] [(.long q1), (.ref a2), (.ref a1)]))
  refine ownVia (fun _ k => XS.aload X0.here hx rfl (hb hby d1_3) rfl rfl k) ?_
  show ownFin _ _ _ _ _ (T0.setTop (mkF m 5 #[.val (.ref a1), .val (.ref a2), .val (.long q1), .second, .val (.ref a3), .val (.ref a4)] [(.ref a3), (.long q1), (.ref a2), (.ref a1)]))
  obtain ⟨T18, h18, X18, e18, E18, A18, D18, -, st18⟩ := newO X0 hx hZ hown (hw _ (List.mem_of_getElem? (i := 7) rfl)) (hw _ (List.mem_of_getElem? (i := 8) rfl)) (hw _ (List.mem_of_getElem? (i := 9) rfl)) e0 (g := (mkF m 5 #[.val (.ref a1), .val (.ref a2), .val (.long q1), .second, .val (.ref a3), .val (.ref a4)] [(.ref a3), (.long q1), (.ref a2), (.ref a1)])) rfl (hb hby d1_5) (by decide) (by decide)
  obtain ⟨b1, g18⟩ : ∃ z, z = h0.size := ⟨_, rfl⟩
  rw [← g18] at A18 D18 st18
  have ne_a1_b1 : a1 ≠ b1 := Nat.ne_of_lt (Nat.lt_of_lt_of_le E_a1.lt (Nat.le_of_eq g18.symm))
  have ne_a2_b1 : a2 ≠ b1 := Nat.ne_of_lt (Nat.lt_of_lt_of_le E_a2.lt (Nat.le_of_eq g18.symm))
  have ne_a3_b1 : a3 ≠ b1 := Nat.ne_of_lt (Nat.lt_of_lt_of_le E_a3.lt (Nat.le_of_eq g18.symm))
  have ne_a4_b1 : a4 ≠ b1 := Nat.ne_of_lt (Nat.lt_of_lt_of_le E_a4.lt (Nat.le_of_eq g18.symm))
  have ge_b1 : n0 ≤ b1 := Nat.le_trans Z0 (Nat.le_of_eq g18.symm)
  have sz_b1 : h0.size ≤ b1 := Nat.le_trans K0.1 (Nat.le_of_eq g18.symm)
  have F_a1_id := F_a1_id.ext E18
  have F_a1_acceptedMillis := F_a1_acceptedMillis.ext E18
  have F_a1_flags := F_a1_flags.ext E18
  have F_a1_body := F_a1_body.ext E18
  have F_a1_quotaMarker := F_a1_quotaMarker.ext E18
  have E_a1 := E_a1.ext E18
  have A_a2 := A_a2.ext E18
  have E_a2 := E_a2.ext E18
  have A_a3 := A_a3.ext E18
  have E_a3 := E_a3.ext E18
  have A_a4 := A_a4.ext E18
  have E_a4 := E_a4.ext E18
  have K0 := K0.ext E18
  have Z0 := own_sz Z0 E18
  have E_b1 := A18
  have F_b1_bytes : Fld Z h18 b1 "com/example/laiskas/laiskas/protocol/Message$Held" "bytes" "[B" .null := D18 (Or.inr (hw _ (List.mem_of_getElem? (i := 31) rfl))) (ty := (.array .byte)) (by decide)
  refine ownVia st18 ?_
  show ownFin _ _ _ _ _ (T18.setTop (mkF m 8 #[.val (.ref a1), .val (.ref a2), .val (.long q1), .second, .val (.ref a3), .val (.ref a4)] [(.ref b1), (.ref a3), (.long q1), (.ref a2), (.ref a1)]))
  refine ownVia (fun _ k => XS.dup X18.here hx rfl (hb hby d1_8) rfl rfl k) ?_
  show ownFin _ _ _ _ _ (T18.setTop (mkF m 9 #[.val (.ref a1), .val (.ref a2), .val (.long q1), .second, .val (.ref a3), .val (.ref a4)] [(.ref b1), (.ref b1), (.ref a3), (.long q1), (.ref a2), (.ref a1)]))
  refine ownVia (fun _ k => XS.aload X18.here hx rfl (hb hby d1_9) rfl rfl k) ?_
  show ownFin _ _ _ _ _ (T18.setTop (mkF m 11 #[.val (.ref a1), .val (.ref a2), .val (.long q1), .second, .val (.ref a3), .val (.ref a4)] [(.ref a4), (.ref b1), (.ref b1), (.ref a3), (.long q1), (.ref a2), (.ref a1)]))
  refine ownClone X18 hx hZ hown (hw _ (List.mem_of_getElem? (i := 10) rfl)) (hw _ (List.mem_of_getElem? (i := 11) rfl)) (hw _ (List.mem_of_getElem? (i := 15) rfl)) (hw _ (List.mem_of_getElem? (i := 13) rfl)) (hw _ (List.mem_of_getElem? (i := 14) rfl)) (hw _ (List.mem_of_getElem? (i := 16) rfl)) e18 A_a4 E_a4 (by rw [hml]; rfl) (hb hby d1_11) (by decide) 7 rfl (by decide) (2) (by rw [own_clamp hz4]; exact hn4) (by decide) (by decide) ?_
  intro T19 h19 b2 g19 X19 e19 E19 A_b2 E_b2
  have ne_a1_b2 : a1 ≠ b2 := Nat.ne_of_lt (Nat.lt_of_lt_of_le E_a1.lt (Nat.le_of_eq g19.symm))
  have ne_a2_b2 : a2 ≠ b2 := Nat.ne_of_lt (Nat.lt_of_lt_of_le E_a2.lt (Nat.le_of_eq g19.symm))
  have ne_a3_b2 : a3 ≠ b2 := Nat.ne_of_lt (Nat.lt_of_lt_of_le E_a3.lt (Nat.le_of_eq g19.symm))
  have ne_a4_b2 : a4 ≠ b2 := Nat.ne_of_lt (Nat.lt_of_lt_of_le E_a4.lt (Nat.le_of_eq g19.symm))
  have ne_b1_b2 : b1 ≠ b2 := Nat.ne_of_lt (Nat.lt_of_lt_of_le E_b1.lt (Nat.le_of_eq g19.symm))
  have ge_b2 : n0 ≤ b2 := Nat.le_trans Z0 (Nat.le_of_eq g19.symm)
  have sz_b2 : h0.size ≤ b2 := Nat.le_trans K0.1 (Nat.le_of_eq g19.symm)
  have F_a1_id := F_a1_id.ext E19
  have F_a1_acceptedMillis := F_a1_acceptedMillis.ext E19
  have F_a1_flags := F_a1_flags.ext E19
  have F_a1_body := F_a1_body.ext E19
  have F_a1_quotaMarker := F_a1_quotaMarker.ext E19
  have E_a1 := E_a1.ext E19
  have A_a2 := A_a2.ext E19
  have E_a2 := E_a2.ext E19
  have A_a3 := A_a3.ext E19
  have E_a3 := E_a3.ext E19
  have A_a4 := A_a4.ext E19
  have E_a4 := E_a4.ext E19
  have E_b1 := E_b1.ext E19
  have F_b1_bytes := F_b1_bytes.ext E19
  have K0 := K0.ext E19
  have Z0 := own_sz Z0 E19
  show ownFin _ _ _ _ _ (T19.setTop (mkF m 14 #[.val (.ref a1), .val (.ref a2), .val (.long q1), .second, .val (.ref a3), .val (.ref a4)] [(.ref b2), (.ref b1), (.ref b1), (.ref a3), (.long q1), (.ref a2), (.ref a1)]))
  refine ownCast X19 hx hZ hown (hw _ (List.mem_of_getElem? (i := 17) rfl)) e19 (Ins.self E_b2) (hb hby d1_14) ?_
  intro T20 X20 e20
  show ownFin _ _ _ _ _ (T20.setTop (mkF m 17 #[.val (.ref a1), .val (.ref a2), .val (.long q1), .second, .val (.ref a3), .val (.ref a4)] [(.ref b2), (.ref b1), (.ref b1), (.ref a3), (.long q1), (.ref a2), (.ref a1)]))
  refine ownCallNR X20 hx hZ hown rfl (hw _ (List.mem_of_getElem? (i := 19) rfl)) (hw _ (List.mem_of_getElem? (i := 20) rfl)) (hw _ (List.mem_of_getElem? (i := 9) rfl)) (hw _ (List.mem_of_getElem? (i := 21) rfl)) (by decide) e20 (own_held l Z a0 hw b1 b2 h19 n0 Z0 F_b1_bytes E_b1 ge_b1) (by rw [hml]; rfl) b1 [(.ref b2)] [(.ref b1), (.ref a3), (.long q1), (.ref a2), (.ref a1)] (lenOf own_pd1 rfl) rfl rfl 6 rfl (hb hby d1_17) (by decide) (by decide) (by decide) (by decide) ?_
  intro v21 T21 L21 X21 hq21
  obtain ⟨rfl, N21q, K21⟩ := hq21
  have F_a1_id := F_a1_id.keep K21 (ninS ne_a1_b1 nin0)
  have F_a1_acceptedMillis := F_a1_acceptedMillis.keep K21 (ninS ne_a1_b1 nin0)
  have F_a1_flags := F_a1_flags.keep K21 (ninS ne_a1_b1 nin0)
  have F_a1_body := F_a1_body.keep K21 (ninS ne_a1_b1 nin0)
  have F_a1_quotaMarker := F_a1_quotaMarker.keep K21 (ninS ne_a1_b1 nin0)
  have E_a1 := E_a1.keep K21
  have A_a2 := A_a2.keep K21 (ninS ne_a2_b1 nin0)
  have E_a2 := E_a2.keep K21
  have A_a3 := A_a3.keep K21 (ninS ne_a3_b1 nin0)
  have E_a3 := E_a3.keep K21
  have A_a4 := A_a4.keep K21 (ninS ne_a4_b1 nin0)
  have E_a4 := E_a4.keep K21
  have E_b1 := E_b1.keep K21
  have A_b2 := A_b2.keep K21 (ninS (Ne.symm ne_b1_b2) nin0)
  have E_b2 := E_b2.keep K21
  have K0 := K0.trans K21 (allS (Or.inr sz_b1) all0)
  have Z0 := Nat.le_trans Z0 K21.1
  have N21 := Fr.app N0 N21q
  show ownFin _ _ _ _ _ (T21.setTop (mkF m 20 #[.val (.ref a1), .val (.ref a2), .val (.long q1), .second, .val (.ref a3), .val (.ref a4)] [(.ref b1), (.ref a3), (.long q1), (.ref a2), (.ref a1)]))
  refine ownVia (fun _ k => XS.iconst X21.here hx rfl (hb hby d1_20) k) ?_
  show ownFin _ _ _ _ _ (T21.setTop (mkF m 21 #[.val (.ref a1), .val (.ref a2), .val (.long q1), .second, .val (.ref a3), .val (.ref a4)] [(.int (0 : Int32)), (.ref b1), (.ref a3), (.long q1), (.ref a2), (.ref a1)]))
  refine ownCallN X21 hx hZ hown rfl (hw _ (List.mem_of_getElem? (i := 32) rfl)) (hw _ (List.mem_of_getElem? (i := 33) rfl)) (hw _ (List.mem_of_getElem? (i := 3) rfl)) (hw _ (List.mem_of_getElem? (i := 34) rfl)) (by decide) (rfl : T21.heap = T21.heap) (own_init5 l Z a0 hw a1 a2 q1 a3 b1 (0 : Int32) T21.heap n0 k_a2 k_a3 z2 z3 v2 v3 n2 n3 Z0 F_a1_id F_a1_acceptedMillis F_a1_flags F_a1_body F_a1_quotaMarker E_a1 ge_a1 A_a2 E_a2 A_a3 E_a3 hz2 hz3 hn2 hn3 ne_a1_a2 ne_a1_a3 (Or.inl rfl)) (by rw [hml]; rfl) a1 [(.ref a2), (.long q1), (.ref a3), (.ref b1), (.int (0 : Int32))] [] (lenOf own_pd2 rfl) rfl rfl 0 rfl (hb hby d1_21) (by decide) (by decide) (by decide) (by decide) ?_
  intro v22 T22 L22 X22 hq22
  obtain ⟨rfl, N22q, K22, c1, c2, si22, sf22, F_a1_id, F_a1_acceptedMillis, F_a1_flags, F_a1_quotaMarker, A_c1, E_c1, A_c2⟩ := hq22
  have ne_a1_c1 : a1 ≠ c1 := Nat.ne_of_lt (Nat.lt_of_lt_of_le E_a1.lt si22)
  have ne_a2_c1 : a2 ≠ c1 := Nat.ne_of_lt (Nat.lt_of_lt_of_le E_a2.lt si22)
  have ne_a3_c1 : a3 ≠ c1 := Nat.ne_of_lt (Nat.lt_of_lt_of_le E_a3.lt si22)
  have ne_a4_c1 : a4 ≠ c1 := Nat.ne_of_lt (Nat.lt_of_lt_of_le E_a4.lt si22)
  have ne_b1_c1 : b1 ≠ c1 := Nat.ne_of_lt (Nat.lt_of_lt_of_le E_b1.lt si22)
  have ne_b2_c1 : b2 ≠ c1 := Nat.ne_of_lt (Nat.lt_of_lt_of_le E_b2.lt si22)
  have ge_c1 : n0 ≤ c1 := Nat.le_trans Z0 si22
  have sz_c1 : h0.size ≤ c1 := Nat.le_trans K0.1 si22
  have ne_a1_c2 : a1 ≠ c2 := Nat.ne_of_lt (Nat.lt_of_lt_of_le E_a1.lt sf22)
  have ne_a2_c2 : a2 ≠ c2 := Nat.ne_of_lt (Nat.lt_of_lt_of_le E_a2.lt sf22)
  have ne_a3_c2 : a3 ≠ c2 := Nat.ne_of_lt (Nat.lt_of_lt_of_le E_a3.lt sf22)
  have ne_a4_c2 : a4 ≠ c2 := Nat.ne_of_lt (Nat.lt_of_lt_of_le E_a4.lt sf22)
  have ne_b1_c2 : b1 ≠ c2 := Nat.ne_of_lt (Nat.lt_of_lt_of_le E_b1.lt sf22)
  have ne_b2_c2 : b2 ≠ c2 := Nat.ne_of_lt (Nat.lt_of_lt_of_le E_b2.lt sf22)
  have ge_c2 : n0 ≤ c2 := Nat.le_trans Z0 sf22
  have sz_c2 : h0.size ≤ c2 := Nat.le_trans K0.1 sf22
  have E_a1 := E_a1.keep K22
  have A_a2 := A_a2.keep K22 (ninS (Ne.symm ne_a1_a2) nin0)
  have E_a2 := E_a2.keep K22
  have A_a3 := A_a3.keep K22 (ninS (Ne.symm ne_a1_a3) nin0)
  have E_a3 := E_a3.keep K22
  have A_a4 := A_a4.keep K22 (ninS (Ne.symm ne_a1_a4) nin0)
  have E_a4 := E_a4.keep K22
  have E_b1 := E_b1.keep K22
  have A_b2 := A_b2.keep K22 (ninS (Ne.symm ne_a1_b2) nin0)
  have E_b2 := E_b2.keep K22
  have K0 := K0.trans K22 (allS (Or.inl (List.mem_of_getElem? (i := 0) rfl)) all0)
  have Z0 := Nat.le_trans Z0 K22.1
  have N22 := Fr.app N21 N22q
  show ownFin _ _ _ _ _ (T22.setTop (mkF m 24 #[.val (.ref a1), .val (.ref a2), .val (.long q1), .second, .val (.ref a3), .val (.ref a4)] []))
  refine ownRetV X22 hx hlk hret (hb hby d1_24) (by decide) (by decide) ?_
  show (Q_own_init4 Z a1 a2 q1 a3 a4 h0 n0 k_a2 k_a3 z2 z3 v2 v3 n2 n3 k_a4 z4 v4 n4) none T22.heap _
  exact ⟨rfl, N22, K0, c1, c2, sz_c1, sz_c2, F_a1_id, F_a1_acceptedMillis, F_a1_flags, F_a1_quotaMarker, A_c1, E_c1, A_c2⟩
theorem d6_0 : decode prog_12_method_11_code 0 = .ok (.aload_n 0, 1) := by decide +kernel
theorem d6_1 : decode prog_12_method_11_code 1 = .ok (.getfield 37, 3) := by decide +kernel
theorem d6_4 : decode prog_12_method_11_code 4 = .ok (.ifCond .ne 26, 3) := by decide +kernel
theorem d6_7 : decode prog_12_method_11_code 7 = .ok (.aload_n 0, 1) := by decide +kernel
theorem d6_8 : decode prog_12_method_11_code 8 = .ok (.getfield 30, 3) := by decide +kernel
theorem d6_11 : decode prog_12_method_11_code 11 = .ok (.arraylength, 1) := by decide +kernel
theorem d6_12 : decode prog_12_method_11_code 12 = .ok (.ifCond .le 18, 3) := by decide +kernel
theorem d6_15 : decode prog_12_method_11_code 15 = .ok (.aload_n 0, 1) := by decide +kernel
theorem d6_16 : decode prog_12_method_11_code 16 = .ok (.getfield 30, 3) := by decide +kernel
theorem d6_19 : decode prog_12_method_11_code 19 = .ok (.iconst 0, 1) := by decide +kernel
theorem d6_20 : decode prog_12_method_11_code 20 = .ok (.baload, 1) := by decide +kernel
theorem d6_21 : decode prog_12_method_11_code 21 = .ok (.bipush 84, 2) := by decide +kernel
theorem d6_23 : decode prog_12_method_11_code 23 = .ok (.if_icmp .ne 7, 3) := by decide +kernel
theorem d6_26 : decode prog_12_method_11_code 26 = .ok (.iconst 1, 1) := by decide +kernel
theorem d6_27 : decode prog_12_method_11_code 27 = .ok (.goto 4, 3) := by decide +kernel
theorem d6_30 : decode prog_12_method_11_code 30 = .ok (.iconst 0, 1) := by decide +kernel
theorem d6_31 : decode prog_12_method_11_code 31 = .ok (.ireturn, 1) := by decide +kernel
theorem own_ef23 (m : MethodId) (a1 : Addr) : entryFrame m #[(.ref a1)] 1 = mkF m 0 #[.val (.ref a1)] [] := by first | (simp [entryFrame, mkF, argsToLocals, Value.category]; done) | rfl
def Q_own_not (Z : State) (a1 : Addr) (h0 : Heap) (n0 : Nat) (b1 : Addr) (k_b1 : ClassId) (z : Int32) (bs : List Int32) : Option Value → Heap → List Loc → Prop := fun v h L => v = some (.int (own_nf bs)) ∧ Fr n0 L ∧ h = h0
set_option maxRecDepth 65536 in
set_option maxHeartbeats 40000000 in
theorem own_not (l : Launch) (Z : State) (a0 : Array Value) (hw : ∀ d ∈ tables_1, d.before a0 Z = true)  (a1 : Addr) (h0 : Heap) (n0 : Nat) (b1 : Addr) (k_b1 : ClassId) (z : Int32) (bs : List Int32) (Z0 : n0 ≤ h0.size) (F_q : Fld Z h0 a1 "com/example/laiskas/laiskas/protocol/Message" "quotaMarker" "Z" (.int (0 : Int32))) (F_f : Fld Z h0 a1 "com/example/laiskas/laiskas/protocol/Message" "flags" "[B" (.ref b1)) (A_b1 : Arv Z h0 b1 k_b1 .byte z (bs.map Value.int) (.int (0 : Int32))) (hz : z.toInt = (bs.length : Int)) :
    ownMet l Z (⟨"com/example/laiskas/laiskas/protocol/Message", "notifies", "()Z"⟩ : MethodName) prog_12_method_11_code 1 (some .boolean) [] ({ frames := 0, cells := 0, slots := 0, locals := 0 } : Room) #[(.ref a1)] h0 (Q_own_not Z a1 h0 n0 b1 k_b1 z bs) := by
  refine ownBody (plainFor_of_name own_pn2) ?_
  intro p e s m below meth c T0 hx hby hml hret hlk hZ hown hnm X0 e0
  have N0 : Fr n0 [] := Fr.nil n0
  refine ownVia (fun _ k => castTop (own_ef23 m a1) k) ?_
  show ownFin _ _ _ _ _ (T0.setTop (mkF m 0 #[.val (.ref a1)] []))
  refine ownVia (fun _ k => XS.aloadN X0.here hx rfl (hb hby d6_0) rfl rfl k) ?_
  show ownFin _ _ _ _ _ (T0.setTop (mkF m 1 #[.val (.ref a1)] [(.ref a1)]))
  obtain ⟨T24, X24, e24, st24⟩ := getF X0 hx hZ hown (host := "") (Or.inl (hw _ (List.mem_of_getElem? (i := 44) rfl))) Via.refl e0 F_q (g := (mkF m 1 #[.val (.ref a1)] [(.ref a1)])) rfl rfl (hb hby d6_1)
  refine ownVia st24 ?_
  show ownFin _ _ _ _ _ (T24.setTop (mkF m 4 #[.val (.ref a1)] [(.int (0 : Int32))]))
  refine ownVia (fun _ k => XS.ifNo X24.here hx rfl (hb hby d6_4) rfl ((if0 _ _).trans (teq rfl).2) k) ?_
  show ownFin _ _ _ _ _ (T24.setTop (mkF m 7 #[.val (.ref a1)] []))
  refine ownVia (fun _ k => XS.aloadN X24.here hx rfl (hb hby d6_7) rfl rfl k) ?_
  show ownFin _ _ _ _ _ (T24.setTop (mkF m 8 #[.val (.ref a1)] [(.ref a1)]))
  obtain ⟨T25, X25, e25, st25⟩ := getF X24 hx hZ hown (host := "") (Or.inl (hw _ (List.mem_of_getElem? (i := 40) rfl))) Via.refl e24 F_f (g := (mkF m 8 #[.val (.ref a1)] [(.ref a1)])) rfl rfl (hb hby d6_8)
  refine ownVia st25 ?_
  show ownFin _ _ _ _ _ (T25.setTop (mkF m 11 #[.val (.ref a1)] [(.ref b1)]))
  refine ownLen X25 hx hZ e25 A_b1 (hb hby d6_11) ?_
  show ownFin _ _ _ _ _ (T25.setTop (mkF m 12 #[.val (.ref a1)] [(.int z)]))
  by_cases hc26 : (0 : Int32) < z
  case pos =>
    have hc26I : 0 < (bs.length : Int) := (own_lti (by decide) hz).mp hc26
    refine ownVia (fun _ k => XS.ifNo X25.here hx rfl (hb hby d6_12) rfl ((if0 _ _).trans (tlt hc26).2.2.2) k) ?_
    show ownFin _ _ _ _ _ (T25.setTop (mkF m 15 #[.val (.ref a1)] []))
    refine ownVia (fun _ k => XS.aloadN X25.here hx rfl (hb hby d6_15) rfl rfl k) ?_
    show ownFin _ _ _ _ _ (T25.setTop (mkF m 16 #[.val (.ref a1)] [(.ref a1)]))
    obtain ⟨T27, X27, e27, st27⟩ := getF X25 hx hZ hown (host := "") (Or.inl (hw _ (List.mem_of_getElem? (i := 40) rfl))) Via.refl e25 F_f (g := (mkF m 16 #[.val (.ref a1)] [(.ref a1)])) rfl rfl (hb hby d6_16)
    refine ownVia st27 ?_
    show ownFin _ _ _ _ _ (T27.setTop (mkF m 19 #[.val (.ref a1)] [(.ref b1)]))
    refine ownVia (fun _ k => XS.iconst X27.here hx rfl (hb hby d6_19) k) ?_
    show ownFin _ _ _ _ _ (T27.setTop (mkF m 20 #[.val (.ref a1)] [(.int (0 : Int32)), (.ref b1)]))
    refine ownBaload X27 hx hZ e27 A_b1 (own_idx hz (by decide) (by have k0 : (0 : Int32).toInt = 0 := (by decide); omega)) (v := (.int (bs.getD 0 0))) (by rw [(by decide : (0 : Int32).toNatClampNeg = 0)]; exact own_getD_map Value.int 0 bs 0) (hb hby d6_20) ?_
    show ownFin _ _ _ _ _ (T27.setTop (mkF m 21 #[.val (.ref a1)] [(.int (bs.getD 0 0))]))
    refine ownVia (fun _ k => XS.bipush X27.here hx rfl (hb hby d6_21) k) ?_
    show ownFin _ _ _ _ _ (T27.setTop (mkF m 23 #[.val (.ref a1)] [(.int (84 : Int32)), (.int (bs.getD 0 0))]))
    by_cases hc28 : (bs.getD 0 0) = (84 : Int32)
    case pos =>
      have hc28I : (bs.getD 0 0).toInt = 84 := (own_eqi rfl (by decide)).mp hc28
      refine ownVia (fun _ k => XS.icmpNo X27.here hx rfl (hb hby d6_23) rfl (teq hc28).2 k) ?_
      show ownFin _ _ _ _ _ (T27.setTop (mkF m 26 #[.val (.ref a1)] []))
      refine ownVia (fun _ k => XS.iconst X27.here hx rfl (hb hby d6_26) k) ?_
      show ownFin _ _ _ _ _ (T27.setTop (mkF m 27 #[.val (.ref a1)] [(.int (1 : Int32))]))
      refine ownVia (fun _ k => XS.goto X27.here hx rfl (pc0 := 27) (pc' := 31) rfl (hb hby d6_27) (by decide) (by decide) k) ?_
      show ownFin _ _ _ _ _ (T27.setTop (mkF m 31 #[.val (.ref a1)] [(.int (1 : Int32))]))
      refine ownRetZ X27 hx hlk hret (hb hby d6_31) (by decide) (by decide) (Or.inr rfl) ?_
      show (Q_own_not Z a1 h0 n0 b1 k_b1 z bs) (some (.int (1 : Int32))) T27.heap _
      rw [e27]
      exact ⟨by rw [own_nf1 (by omega) hc28], N0, rfl⟩
    case neg =>
      have hc28I : ¬ (bs.getD 0 0).toInt = 84 := fun q => hc28 ((own_eqi rfl (by decide)).mpr q)
      refine ownVia (fun _ k => XS.icmpYes X27.here hx rfl (pc0 := 23) (pc' := 30) rfl (hb hby d6_23) rfl (feq hc28).2 (by decide) (by decide) k) ?_
      show ownFin _ _ _ _ _ (T27.setTop (mkF m 30 #[.val (.ref a1)] []))
      refine ownVia (fun _ k => XS.iconst X27.here hx rfl (hb hby d6_30) k) ?_
      show ownFin _ _ _ _ _ (T27.setTop (mkF m 31 #[.val (.ref a1)] [(.int (0 : Int32))]))
      refine ownRetZ X27 hx hlk hret (hb hby d6_31) (by decide) (by decide) (Or.inl rfl) ?_
      show (Q_own_not Z a1 h0 n0 b1 k_b1 z bs) (some (.int (0 : Int32))) T27.heap _
      rw [e27]
      exact ⟨by rw [own_nf0 (fun z => hc28 z.2)], N0, rfl⟩
  case neg =>
    have hc26I : ¬ 0 < (bs.length : Int) := fun q => hc26 ((own_lti (by decide) hz).mpr q)
    refine ownVia (fun _ k => XS.ifYes X25.here hx rfl (pc0 := 12) (pc' := 30) rfl (hb hby d6_12) rfl ((if0 _ _).trans (flt hc26).2.2.2) (by decide) (by decide) k) ?_
    show ownFin _ _ _ _ _ (T25.setTop (mkF m 30 #[.val (.ref a1)] []))
    refine ownVia (fun _ k => XS.iconst X25.here hx rfl (hb hby d6_30) k) ?_
    show ownFin _ _ _ _ _ (T25.setTop (mkF m 31 #[.val (.ref a1)] [(.int (0 : Int32))]))
    refine ownRetZ X25 hx hlk hret (hb hby d6_31) (by decide) (by decide) (Or.inl rfl) ?_
    show (Q_own_not Z a1 h0 n0 b1 k_b1 z bs) (some (.int (0 : Int32))) T25.heap _
    rw [e25]
    exact ⟨by rw [own_nf0 (fun z => absurd z.1 (by omega))], N0, rfl⟩
theorem own_ef29 (m : MethodId) (a1 : Addr) : entryFrame m #[(.ref a1)] 1 = mkF m 0 #[.val (.ref a1)] [] := by first | (simp [entryFrame, mkF, argsToLocals, Value.category]; done) | rfl
def Q_own_notq (Z : State) (a1 : Addr) (h0 : Heap) (n0 : Nat)  : Option Value → Heap → List Loc → Prop := fun v h L => v = some (.int 0) ∧ Fr n0 L ∧ h = h0
set_option maxRecDepth 65536 in
set_option maxHeartbeats 40000000 in
theorem own_notq (l : Launch) (Z : State) (a0 : Array Value) (hw : ∀ d ∈ tables_1, d.before a0 Z = true)  (a1 : Addr) (h0 : Heap) (n0 : Nat)  (Z0 : n0 ≤ h0.size) (F_q : Fld Z h0 a1 "com/example/laiskas/laiskas/protocol/Message" "quotaMarker" "Z" (.int (1 : Int32))) :
    ownMet l Z (⟨"com/example/laiskas/laiskas/protocol/Message", "notifies", "()Z"⟩ : MethodName) prog_12_method_11_code 1 (some .boolean) [] ({ frames := 0, cells := 0, slots := 0, locals := 0 } : Room) #[(.ref a1)] h0 (Q_own_notq Z a1 h0 n0 ) := by
  refine ownBody (plainFor_of_name own_pn2) ?_
  intro p e s m below meth c T0 hx hby hml hret hlk hZ hown hnm X0 e0
  have N0 : Fr n0 [] := Fr.nil n0
  refine ownVia (fun _ k => castTop (own_ef29 m a1) k) ?_
  show ownFin _ _ _ _ _ (T0.setTop (mkF m 0 #[.val (.ref a1)] []))
  refine ownVia (fun _ k => XS.aloadN X0.here hx rfl (hb hby d6_0) rfl rfl k) ?_
  show ownFin _ _ _ _ _ (T0.setTop (mkF m 1 #[.val (.ref a1)] [(.ref a1)]))
  obtain ⟨T30, X30, e30, st30⟩ := getF X0 hx hZ hown (host := "") (Or.inl (hw _ (List.mem_of_getElem? (i := 44) rfl))) Via.refl e0 F_q (g := (mkF m 1 #[.val (.ref a1)] [(.ref a1)])) rfl rfl (hb hby d6_1)
  refine ownVia st30 ?_
  show ownFin _ _ _ _ _ (T30.setTop (mkF m 4 #[.val (.ref a1)] [(.int (1 : Int32))]))
  refine ownVia (fun _ k => XS.ifYes X30.here hx rfl (pc0 := 4) (pc' := 30) rfl (hb hby d6_4) rfl ((if0 _ _).trans (feq (by decide)).2) (by decide) (by decide) k) ?_
  show ownFin _ _ _ _ _ (T30.setTop (mkF m 30 #[.val (.ref a1)] []))
  refine ownVia (fun _ k => XS.iconst X30.here hx rfl (hb hby d6_30) k) ?_
  show ownFin _ _ _ _ _ (T30.setTop (mkF m 31 #[.val (.ref a1)] [(.int (0 : Int32))]))
  refine ownRetZ X30 hx hlk hret (hb hby d6_31) (by decide) (by decide) (Or.inl rfl) ?_
  show (Q_own_notq Z a1 h0 n0 ) (some (.int (0 : Int32))) T30.heap _
  rw [e30]
  exact ⟨rfl, N0, rfl⟩
theorem d7_0 : decode prog_12_method_4_code 0 = .ok (.new 14, 3) := by decide +kernel
theorem d7_3 : decode prog_12_method_4_code 3 = .ok (.dup, 1) := by decide +kernel
theorem d7_4 : decode prog_12_method_4_code 4 = .ok (.aload_n 0, 1) := by decide +kernel
theorem d7_5 : decode prog_12_method_4_code 5 = .ok (.getfield 23, 3) := by decide +kernel
theorem d7_8 : decode prog_12_method_4_code 8 = .ok (.aload_n 0, 1) := by decide +kernel
theorem d7_9 : decode prog_12_method_4_code 9 = .ok (.getfield 26, 3) := by decide +kernel
theorem d7_12 : decode prog_12_method_4_code 12 = .ok (.getstatic 41, 3) := by decide +kernel
theorem d7_15 : decode prog_12_method_4_code 15 = .ok (.getstatic 44, 3) := by decide +kernel
theorem d7_18 : decode prog_12_method_4_code 18 = .ok (.iconst 1, 1) := by decide +kernel
theorem d7_19 : decode prog_12_method_4_code 19 = .ok (.invokespecial 13, 3) := by decide +kernel
theorem d7_22 : decode prog_12_method_4_code 22 = .ok (.areturn, 1) := by decide +kernel
theorem own_ef31 (m : MethodId) (a1 : Addr) : entryFrame m #[(.ref a1)] 1 = mkF m 0 #[.val (.ref a1)] [] := by first | (simp [entryFrame, mkF, argsToLocals, Value.category]; done) | rfl
def Q_own_qm (Z : State) (a1 : Addr) (h0 : Heap) (n0 : Nat) (i1 sN sE : Addr) (k_i1 kN : ClassId) (q1 : Int64) (zi zN : Int32) (vi vN : List Value) (ni nN : Nat) : Option Value → Heap → List Loc → Prop := fun v h L => ∃ b, v = some (.ref b) ∧ Fr n0 L ∧ Keep h0 h [] ∧ h0.size ≤ b ∧ Exa Z h b "com/example/laiskas/laiskas/protocol/Message" ∧ Fld Z h b "com/example/laiskas/laiskas/protocol/Message" "quotaMarker" "Z" (.int (1 : Int32))
set_option maxRecDepth 65536 in
set_option maxHeartbeats 40000000 in
theorem own_qm (l : Launch) (Z : State) (a0 : Array Value) (hw : ∀ d ∈ tables_1, d.before a0 Z = true)  (a1 : Addr) (h0 : Heap) (n0 : Nat) (i1 sN sE : Addr) (k_i1 kN : ClassId) (q1 : Int64) (zi zN : Int32) (vi vN : List Value) (ni nN : Nat) (Z0 : n0 ≤ h0.size) (F_i : Fld Z h0 a1 "com/example/laiskas/laiskas/protocol/Message" "id" "[B" (.ref i1)) (F_m : Fld Z h0 a1 "com/example/laiskas/laiskas/protocol/Message" "acceptedMillis" "J" (.long q1)) (A_i1 : Arv Z h0 i1 k_i1 .byte zi vi (.int (0 : Int32))) (E_i1 : Exa Z h0 i1 "[B") (hzi : zi.toInt = (ni : Int)) (hni : ni ≤ 2) (S_N : Sta Z h0 "com/example/laiskas/laiskas/protocol/Message" "NONE" "[B" (.ref sN)) (S_E : Sta Z h0 "com/example/laiskas/laiskas/protocol/Message" "EMPTY" "Lcom/example/laiskas/laiskas/protocol/Message$Body;" (.ref sE)) (A_sN : Arv Z h0 sN kN .byte zN vN (.int (0 : Int32))) (E_sN : Exa Z h0 sN "[B") (hzN : zN.toInt = (nN : Int)) (hnN : nN ≤ 2) :
    ownMet l Z (⟨"com/example/laiskas/laiskas/protocol/Message", "quotaMarker", "()Lcom/example/laiskas/laiskas/protocol/Message;"⟩ : MethodName) prog_12_method_4_code 1 (some (.object "com/example/laiskas/laiskas/protocol/Message")) [] ({ frames := 2, cells := 3, slots := 9, locals := 80 } : Room) #[(.ref a1)] h0 (Q_own_qm Z a1 h0 n0 i1 sN sE k_i1 kN q1 zi zN vi vN ni nN) := by
  refine ownBody (plainFor_of_name own_pn2) ?_
  intro p e s m below meth c T0 hx hby hml hret hlk hZ hown hnm X0 e0
  have N0 : Fr n0 [] := Fr.nil n0
  refine ownVia (fun _ k => castTop (own_ef31 m a1) k) ?_
  show ownFin _ _ _ _ _ (T0.setTop (mkF m 0 #[.val (.ref a1)] []))
  have K0 : Keep h0 h0 [] := Keep.refl _ _
  obtain ⟨T32, h32, X32, e32, E32, A32, D32, -, st32⟩ := newO X0 hx hZ hown (hw _ (List.mem_of_getElem? (i := 56) rfl)) (hw _ (List.mem_of_getElem? (i := 2) rfl)) (hw _ (List.mem_of_getElem? (i := 3) rfl)) e0 (g := (mkF m 0 #[.val (.ref a1)] [])) rfl (hb hby d7_0) (by decide) (by decide)
  obtain ⟨b1, g32⟩ : ∃ z, z = h0.size := ⟨_, rfl⟩
  rw [← g32] at A32 D32 st32
  have ne_a1_b1 : a1 ≠ b1 := Nat.ne_of_lt (Nat.lt_of_lt_of_le F_i.lt (Nat.le_of_eq g32.symm))
  have ne_i1_b1 : i1 ≠ b1 := Nat.ne_of_lt (Nat.lt_of_lt_of_le E_i1.lt (Nat.le_of_eq g32.symm))
  have ne_sN_b1 : sN ≠ b1 := Nat.ne_of_lt (Nat.lt_of_lt_of_le E_sN.lt (Nat.le_of_eq g32.symm))
  have ge_b1 : n0 ≤ b1 := Nat.le_trans Z0 (Nat.le_of_eq g32.symm)
  have sz_b1 : h0.size ≤ b1 := Nat.le_trans K0.1 (Nat.le_of_eq g32.symm)
  have F_i := F_i.ext E32
  have F_m := F_m.ext E32
  have A_i1 := A_i1.ext E32
  have E_i1 := E_i1.ext E32
  have A_sN := A_sN.ext E32
  have E_sN := E_sN.ext E32
  have S_N := S_N.ext E32
  have S_E := S_E.ext E32
  have K0 := K0.ext E32
  have Z0 := own_sz Z0 E32
  have E_b1 := A32
  have F_b1_id : Fld Z h32 b1 "com/example/laiskas/laiskas/protocol/Message" "id" "[B" .null := D32 (Or.inr (hw _ (List.mem_of_getElem? (i := 37) rfl))) (ty := (.array .byte)) (by decide)
  have F_b1_acceptedMillis : Fld Z h32 b1 "com/example/laiskas/laiskas/protocol/Message" "acceptedMillis" "J" (.long (0 : Int64)) := D32 (Or.inr (hw _ (List.mem_of_getElem? (i := 39) rfl))) (ty := .long) (by decide)
  have F_b1_flags : Fld Z h32 b1 "com/example/laiskas/laiskas/protocol/Message" "flags" "[B" .null := D32 (Or.inr (hw _ (List.mem_of_getElem? (i := 41) rfl))) (ty := (.array .byte)) (by decide)
  have F_b1_body : Fld Z h32 b1 "com/example/laiskas/laiskas/protocol/Message" "body" "Lcom/example/laiskas/laiskas/protocol/Message$Body;" .null := D32 (Or.inr (hw _ (List.mem_of_getElem? (i := 43) rfl))) (ty := (.object "com/example/laiskas/laiskas/protocol/Message$Body")) (by decide)
  have F_b1_quotaMarker : Fld Z h32 b1 "com/example/laiskas/laiskas/protocol/Message" "quotaMarker" "Z" (.int (0 : Int32)) := D32 (Or.inr (hw _ (List.mem_of_getElem? (i := 45) rfl))) (ty := .boolean) (by decide)
  refine ownVia st32 ?_
  show ownFin _ _ _ _ _ (T32.setTop (mkF m 3 #[.val (.ref a1)] [(.ref b1)]))
  refine ownVia (fun _ k => XS.dup X32.here hx rfl (hb hby d7_3) rfl rfl k) ?_
  show ownFin _ _ _ _ _ (T32.setTop (mkF m 4 #[.val (.ref a1)] [(.ref b1), (.ref b1)]))
  refine ownVia (fun _ k => XS.aloadN X32.here hx rfl (hb hby d7_4) rfl rfl k) ?_
  show ownFin _ _ _ _ _ (T32.setTop (mkF m 5 #[.val (.ref a1)] [(.ref a1), (.ref b1), (.ref b1)]))
  obtain ⟨T33, X33, e33, st33⟩ := getF X32 hx hZ hown (host := "") (Or.inl (hw _ (List.mem_of_getElem? (i := 36) rfl))) Via.refl e32 F_i (g := (mkF m 5 #[.val (.ref a1)] [(.ref a1), (.ref b1), (.ref b1)])) rfl rfl (hb hby d7_5)
  refine ownVia st33 ?_
  show ownFin _ _ _ _ _ (T33.setTop (mkF m 8 #[.val (.ref a1)] [(.ref i1), (.ref b1), (.ref b1)]))
  refine ownVia (fun _ k => XS.aloadN X33.here hx rfl (hb hby d7_8) rfl rfl k) ?_
  show ownFin _ _ _ _ _ (T33.setTop (mkF m 9 #[.val (.ref a1)] [(.ref a1), (.ref i1), (.ref b1), (.ref b1)]))
  obtain ⟨T34, X34, e34, st34⟩ := getF X33 hx hZ hown (host := "") (Or.inl (hw _ (List.mem_of_getElem? (i := 38) rfl))) Via.refl e33 F_m (g := (mkF m 9 #[.val (.ref a1)] [(.ref a1), (.ref i1), (.ref b1), (.ref b1)])) rfl rfl (hb hby d7_9)
  refine ownVia st34 ?_
  show ownFin _ _ _ _ _ (T34.setTop (mkF m 12 #[.val (.ref a1)] [(.long q1), (.ref i1), (.ref b1), (.ref b1)]))
  obtain ⟨T35, X35, e35, st35⟩ := getS2 X34 hx hZ hown (host := "") (Or.inl (hw _ (List.mem_of_getElem? (i := 57) rfl))) Via.refl e34 S_N (g := (mkF m 12 #[.val (.ref a1)] [(.long q1), (.ref i1), (.ref b1), (.ref b1)])) rfl (hb hby d7_12)
  refine ownVia st35 ?_
  show ownFin _ _ _ _ _ (T35.setTop (mkF m 15 #[.val (.ref a1)] [(.ref sN), (.long q1), (.ref i1), (.ref b1), (.ref b1)]))
  obtain ⟨T36, X36, e36, st36⟩ := getS2 X35 hx hZ hown (host := "") (Or.inl (hw _ (List.mem_of_getElem? (i := 59) rfl))) Via.refl e35 S_E (g := (mkF m 15 #[.val (.ref a1)] [(.ref sN), (.long q1), (.ref i1), (.ref b1), (.ref b1)])) rfl (hb hby d7_15)
  refine ownVia st36 ?_
  show ownFin _ _ _ _ _ (T36.setTop (mkF m 18 #[.val (.ref a1)] [(.ref sE), (.ref sN), (.long q1), (.ref i1), (.ref b1), (.ref b1)]))
  refine ownVia (fun _ k => XS.iconst X36.here hx rfl (hb hby d7_18) k) ?_
  show ownFin _ _ _ _ _ (T36.setTop (mkF m 19 #[.val (.ref a1)] [(.int (1 : Int32)), (.ref sE), (.ref sN), (.long q1), (.ref i1), (.ref b1), (.ref b1)]))
  refine ownCallN X36 hx hZ hown rfl (hw _ (List.mem_of_getElem? (i := 32) rfl)) (hw _ (List.mem_of_getElem? (i := 33) rfl)) (hw _ (List.mem_of_getElem? (i := 3) rfl)) (hw _ (List.mem_of_getElem? (i := 34) rfl)) (by decide) e36 (own_init5 l Z a0 hw b1 i1 q1 sN sE (1 : Int32) h32 n0 k_i1 kN zi zN vi vN ni nN Z0 F_b1_id F_b1_acceptedMillis F_b1_flags F_b1_body F_b1_quotaMarker E_b1 ge_b1 A_i1 E_i1 A_sN E_sN hzi hzN hni hnN (Ne.symm ne_i1_b1) (Ne.symm ne_sN_b1) (Or.inr rfl)) (by rw [hml]; rfl) b1 [(.ref i1), (.long q1), (.ref sN), (.ref sE), (.int (1 : Int32))] [(.ref b1)] (lenOf own_pd2 rfl) rfl rfl 1 rfl (hb hby d7_19) (by decide) (by decide) (by decide) (by decide) ?_
  intro v37 T37 L37 X37 hq37
  obtain ⟨rfl, N37q, K37, c1, c2, si37, sf37, F_b1_id, F_b1_acceptedMillis, F_b1_flags, F_b1_quotaMarker, A_c1, E_c1, A_c2⟩ := hq37
  have F_i := F_i.keep K37 (ninS ne_a1_b1 nin0)
  have F_m := F_m.keep K37 (ninS ne_a1_b1 nin0)
  have A_i1 := A_i1.keep K37 (ninS ne_i1_b1 nin0)
  have E_i1 := E_i1.keep K37
  have A_sN := A_sN.keep K37 (ninS ne_sN_b1 nin0)
  have E_sN := E_sN.keep K37
  have E_b1 := E_b1.keep K37
  have K0 := K0.trans K37 (allS (Or.inr sz_b1) all0)
  have Z0 := Nat.le_trans Z0 K37.1
  have N37 := Fr.app N0 N37q
  show ownFin _ _ _ _ _ (T37.setTop (mkF m 22 #[.val (.ref a1)] [(.ref b1)]))
  refine ownRetA X37 hx hlk (ty := (.object "com/example/laiskas/laiskas/protocol/Message")) hret rfl (hb hby d7_22) (by decide) (by decide) ?_
  show (Q_own_qm Z a1 h0 n0 i1 sN sE k_i1 kN q1 zi zN vi vN ni nN) (some (.ref b1)) T37.heap _
  exact ⟨b1, rfl, N37, K0, sz_b1, E_b1, F_b1_quotaMarker⟩
theorem own_pn3 : plainName "com/example/laiskas/laiskas/protocol/MessageNotifiesPinLaw" = true := by first | (simp [plainName, overriddenIn]; done) | decide +kernel
theorem own_ef38 (m : MethodId) (p1 : Int32) (p2 : Int32) (p3 : Int32) (q1 : Int64) : entryFrame m #[(.int p1), (.int p2), (.int p3), (.long q1)] maxLocals = mkF m 0 #[.val (.int p1), .val (.int p2), .val (.int p3), .val (.long q1), .second, .unset, .unset, .unset, .unset, .unset, .unset, .unset, .unset] [] := by first | (simp [entryFrame, mkF, argsToLocals, Value.category, maxLocals]; done) | rfl
def Q_own_law (Z : State) (p1 : Int32) (p2 : Int32) (p3 : Int32) (q1 : Int64) (h0 : Heap) (n0 : Nat) (sN sE : Addr) (kN : ClassId) : Option Value → Heap → List Loc → Prop := fun v h L => v = some (.int 1) ∧ Fr n0 L
theorem own_pd3 : parseMethodDescriptor "([BJ[B[B)V" = some ⟨[(.array .byte), .long, (.array .byte), (.array .byte)], none⟩ := by decide +kernel
theorem own_pd4 : parseMethodDescriptor "()Z" = some ⟨[], some .boolean⟩ := by decide +kernel
theorem own_pd5 : parseMethodDescriptor "()Lcom/example/laiskas/laiskas/protocol/Message;" = some ⟨[], some (.object "com/example/laiskas/laiskas/protocol/Message")⟩ := by decide +kernel
set_option maxRecDepth 65536 in
set_option maxHeartbeats 40000000 in
theorem own_law (l : Launch) (Z : State) (a0 : Array Value) (hw : ∀ d ∈ tables_1, d.before a0 Z = true) (ws : List Jvm.Cond) (p1 : Int32) (p2 : Int32) (p3 : Int32) (q1 : Int64) (h0 : Heap) (n0 : Nat) (sN sE : Addr) (kN : ClassId) (Z0 : n0 ≤ h0.size) (O : Old Z n0 h0) (S_N : Sta Z Z.heap "com/example/laiskas/laiskas/protocol/Message" "NONE" "[B" (.ref sN)) (S_E : Sta Z Z.heap "com/example/laiskas/laiskas/protocol/Message" "EMPTY" "Lcom/example/laiskas/laiskas/protocol/Message$Body;" (.ref sE)) (A_sN : Arv Z Z.heap sN kN .byte (0 : Int32) [] (.int (0 : Int32))) (E_sN : Exa Z Z.heap sN "[B") :
    ownMet l Z x code maxLocals ret ws room_1 #[(.int p1), (.int p2), (.int p3), (.long q1)] h0 (Q_own_law Z p1 p2 p3 q1 h0 n0 sN sE kN) := by
  refine ownBody (plainFor_of_name own_pn3) ?_
  intro p e s m below meth c T0 hx hby hml hret hlk hZ hown hnm X0 e0
  have N0 : Fr n0 [] := Fr.nil n0
  have hown : s.vm.findClass "com/example/laiskas/laiskas/protocol/MessageNotifiesPinLaw" = some m.cls := hown
  refine ownVia (fun _ k => castTop (own_ef38 m p1 p2 p3 q1) k) ?_
  show ownFin _ _ _ _ _ (T0.setTop (mkF m 0 #[.val (.int p1), .val (.int p2), .val (.int p3), .val (.long q1), .second, .unset, .unset, .unset, .unset, .unset, .unset, .unset, .unset] []))
  have hln := own_len3 p1
  refine ownVia (fun _ k => XS.iloadN X0.here hx rfl (hb hby at_0) rfl k) ?_
  show ownFin _ _ _ _ _ (T0.setTop (mkF m 1 #[.val (.int p1), .val (.int p2), .val (.int p3), .val (.long q1), .second, .unset, .unset, .unset, .unset, .unset, .unset, .unset, .unset] [(.int p1)]))
  refine ownVia (fun _ k => XS.iconst X0.here hx rfl (hb hby at_1) k) ?_
  show ownFin _ _ _ _ _ (T0.setTop (mkF m 2 #[.val (.int p1), .val (.int p2), .val (.int p3), .val (.long q1), .second, .unset, .unset, .unset, .unset, .unset, .unset, .unset, .unset] [(.int (3 : Int32)), (.int p1)]))
  refine ownVia (fun _ k => XS.iand X0.here hx rfl (hb hby at_2) rfl k) ?_
  show ownFin _ _ _ _ _ (T0.setTop (mkF m 3 #[.val (.int p1), .val (.int p2), .val (.int p3), .val (.long q1), .second, .unset, .unset, .unset, .unset, .unset, .unset, .unset, .unset] [(.int (p1 &&& (3 : Int32)))]))
  refine ownVia (fun _ k => XS.iconst X0.here hx rfl (hb hby at_3) k) ?_
  show ownFin _ _ _ _ _ (T0.setTop (mkF m 4 #[.val (.int p1), .val (.int p2), .val (.int p3), .val (.long q1), .second, .unset, .unset, .unset, .unset, .unset, .unset, .unset, .unset] [(.int (3 : Int32)), (.int (p1 &&& (3 : Int32)))]))
  refine ownVia (fun _ k => iremM X0 hx rfl (hb hby at_4) rfl (by decide) k) ?_
  show ownFin _ _ _ _ _ (T0.setTop (mkF m 5 #[.val (.int p1), .val (.int p2), .val (.int p3), .val (.long q1), .second, .unset, .unset, .unset, .unset, .unset, .unset, .unset, .unset] [(.int ((p1 &&& (3 : Int32)) % (3 : Int32)))]))
  generalize h_nv : ((p1 &&& (3 : Int32)) % (3 : Int32)) = nv
  show ownFin _ _ _ _ _ (T0.setTop (mkF m 5 #[.val (.int p1), .val (.int p2), .val (.int p3), .val (.long q1), .second, .unset, .unset, .unset, .unset, .unset, .unset, .unset, .unset] [(.int nv)]))
  rw [h_nv] at hln
  refine ownVia (fun _ k => XS.istore X0.here hx rfl (hb hby at_5) rfl (l' := #[.val (.int p1), .val (.int p2), .val (.int p3), .val (.long q1), .second, .val (.int nv), .unset, .unset, .unset, .unset, .unset, .unset, .unset]) rfl k) ?_
  show ownFin _ _ _ _ _ (T0.setTop (mkF m 7 #[.val (.int p1), .val (.int p2), .val (.int p3), .val (.long q1), .second, .val (.int nv), .unset, .unset, .unset, .unset, .unset, .unset, .unset] []))
  refine ownVia (fun _ k => XS.iloadN X0.here hx rfl (hb hby at_7) rfl k) ?_
  show ownFin _ _ _ _ _ (T0.setTop (mkF m 8 #[.val (.int p1), .val (.int p2), .val (.int p3), .val (.long q1), .second, .val (.int nv), .unset, .unset, .unset, .unset, .unset, .unset, .unset] [(.int p1)]))
  refine ownVia (fun _ k => XS.iconst X0.here hx rfl (hb hby at_8) k) ?_
  show ownFin _ _ _ _ _ (T0.setTop (mkF m 9 #[.val (.int p1), .val (.int p2), .val (.int p3), .val (.long q1), .second, .val (.int nv), .unset, .unset, .unset, .unset, .unset, .unset, .unset] [(.int (4 : Int32)), (.int p1)]))
  refine ownVia (fun _ k => XS.iand X0.here hx rfl (hb hby at_9) rfl k) ?_
  show ownFin _ _ _ _ _ (T0.setTop (mkF m 10 #[.val (.int p1), .val (.int p2), .val (.int p3), .val (.long q1), .second, .val (.int nv), .unset, .unset, .unset, .unset, .unset, .unset, .unset] [(.int (p1 &&& (4 : Int32)))]))
  have J28 : ∀ (qv : Int32), ownFin p e below (ownFE s room_1.cells room_1.slots) (Q_own_law Z p1 p2 p3 q1 h0 n0 sN sE kN) (T0.setTop (mkF m 28 #[.val (.int p1), .val (.int p2), .val (.int p3), .val (.long q1), .second, .val (.int nv), .val (.int qv), .val (.int (p2.toInt8.toInt32)), .val (.int (p3.toInt8.toInt32)), .unset, .unset, .unset, .unset] [])) := by
    intro qv
    show ownFin _ _ _ _ _ (T0.setTop (mkF m 28 #[.val (.int p1), .val (.int p2), .val (.int p3), .val (.long q1), .second, .val (.int nv), .val (.int qv), .val (.int (p2.toInt8.toInt32)), .val (.int (p3.toInt8.toInt32)), .unset, .unset, .unset, .unset] []))
    refine ownVia (fun _ k => XS.iload X0.here hx rfl (hb hby at_28) rfl k) ?_
    show ownFin _ _ _ _ _ (T0.setTop (mkF m 30 #[.val (.int p1), .val (.int p2), .val (.int p3), .val (.long q1), .second, .val (.int nv), .val (.int qv), .val (.int (p2.toInt8.toInt32)), .val (.int (p3.toInt8.toInt32)), .unset, .unset, .unset, .unset] [(.int nv)]))
    by_cases hc39 : nv = (0 : Int32)
    case pos =>
      have hc39I : nv.toInt = 0 := (own_eqi rfl (by decide)).mp hc39
      refine ownVia (fun _ k => XS.ifNo X0.here hx rfl (hb hby at_30) rfl ((if0 _ _).trans (teq hc39).2) k) ?_
      show ownFin _ _ _ _ _ (T0.setTop (mkF m 33 #[.val (.int p1), .val (.int p2), .val (.int p3), .val (.long q1), .second, .val (.int nv), .val (.int qv), .val (.int (p2.toInt8.toInt32)), .val (.int (p3.toInt8.toInt32)), .unset, .unset, .unset, .unset] []))
      refine ownVia (fun _ k => XS.iconst X0.here hx rfl (hb hby at_33) k) ?_
      show ownFin _ _ _ _ _ (T0.setTop (mkF m 34 #[.val (.int p1), .val (.int p2), .val (.int p3), .val (.long q1), .second, .val (.int nv), .val (.int qv), .val (.int (p2.toInt8.toInt32)), .val (.int (p3.toInt8.toInt32)), .unset, .unset, .unset, .unset] [(.int (0 : Int32))]))
      refine ownNewP X0 hx hZ (hw _ (List.mem_of_getElem? (i := 0) rfl)) e0 "[B" (by decide) (by decide) (0) (by decide) (0) (by decide) (by decide) (by decide) (by decide) (hb hby at_34) ?_
      intro T40 h40 k_b1 b1 g40 X40 e40 E40 A_b1 E_b1
      have ge_b1 : n0 ≤ b1 := Nat.le_trans Z0 (Nat.le_of_eq g40.symm)
      have O := O.ext E40
      have Z0 := own_sz Z0 E40
      have A_b1 : Arv Z h40 b1 k_b1 .byte (0 : Int32) [] (.int (0 : Int32)) := A_b1
      show ownFin _ _ _ _ _ (T40.setTop (mkF m 36 #[.val (.int p1), .val (.int p2), .val (.int p3), .val (.long q1), .second, .val (.int nv), .val (.int qv), .val (.int (p2.toInt8.toInt32)), .val (.int (p3.toInt8.toInt32)), .unset, .unset, .unset, .unset] [(.ref b1)]))
      refine ownVia (fun _ k => XS.astore X40.here hx rfl (hb hby at_36) rfl rfl (l' := #[.val (.int p1), .val (.int p2), .val (.int p3), .val (.long q1), .second, .val (.int nv), .val (.int qv), .val (.int (p2.toInt8.toInt32)), .val (.int (p3.toInt8.toInt32)), .val (.ref b1), .unset, .unset, .unset]) rfl k) ?_
      show ownFin _ _ _ _ _ (T40.setTop (mkF m 38 #[.val (.int p1), .val (.int p2), .val (.int p3), .val (.long q1), .second, .val (.int nv), .val (.int qv), .val (.int (p2.toInt8.toInt32)), .val (.int (p3.toInt8.toInt32)), .val (.ref b1), .unset, .unset, .unset] []))
      refine ownVia (fun _ k => XS.goto X40.here hx rfl (pc0 := 38) (pc' := 75) rfl (hb hby at_38) (by decide) (by decide) k) ?_
      show ownFin _ _ _ _ _ (T40.setTop (mkF m 75 #[.val (.int p1), .val (.int p2), .val (.int p3), .val (.long q1), .second, .val (.int nv), .val (.int qv), .val (.int (p2.toInt8.toInt32)), .val (.int (p3.toInt8.toInt32)), .val (.ref b1), .unset, .unset, .unset] []))
      obtain ⟨T41, h41, X41, e41, E41, A41, D41, -, st41⟩ := newO X40 hx hZ hown (hw _ (List.mem_of_getElem? (i := 1) rfl)) (hw _ (List.mem_of_getElem? (i := 2) rfl)) (hw _ (List.mem_of_getElem? (i := 3) rfl)) e40 (g := (mkF m 75 #[.val (.int p1), .val (.int p2), .val (.int p3), .val (.long q1), .second, .val (.int nv), .val (.int qv), .val (.int (p2.toInt8.toInt32)), .val (.int (p3.toInt8.toInt32)), .val (.ref b1), .unset, .unset, .unset] [])) rfl (hb hby at_75) (by decide) (by decide)
      obtain ⟨b2, g41⟩ : ∃ z, z = h40.size := ⟨_, rfl⟩
      rw [← g41] at A41 D41 st41
      have ne_b1_b2 : b1 ≠ b2 := Nat.ne_of_lt (Nat.lt_of_lt_of_le E_b1.lt (Nat.le_of_eq g41.symm))
      have ge_b2 : n0 ≤ b2 := Nat.le_trans Z0 (Nat.le_of_eq g41.symm)
      have A_b1 := A_b1.ext E41
      have E_b1 := E_b1.ext E41
      have O := O.ext E41
      have Z0 := own_sz Z0 E41
      have E_b2 := A41
      have F_b2_id : Fld Z h41 b2 "com/example/laiskas/laiskas/protocol/Message" "id" "[B" .null := D41 (Or.inr (hw _ (List.mem_of_getElem? (i := 37) rfl))) (ty := (.array .byte)) (by decide)
      have F_b2_acceptedMillis : Fld Z h41 b2 "com/example/laiskas/laiskas/protocol/Message" "acceptedMillis" "J" (.long (0 : Int64)) := D41 (Or.inr (hw _ (List.mem_of_getElem? (i := 39) rfl))) (ty := .long) (by decide)
      have F_b2_flags : Fld Z h41 b2 "com/example/laiskas/laiskas/protocol/Message" "flags" "[B" .null := D41 (Or.inr (hw _ (List.mem_of_getElem? (i := 41) rfl))) (ty := (.array .byte)) (by decide)
      have F_b2_body : Fld Z h41 b2 "com/example/laiskas/laiskas/protocol/Message" "body" "Lcom/example/laiskas/laiskas/protocol/Message$Body;" .null := D41 (Or.inr (hw _ (List.mem_of_getElem? (i := 43) rfl))) (ty := (.object "com/example/laiskas/laiskas/protocol/Message$Body")) (by decide)
      have F_b2_quotaMarker : Fld Z h41 b2 "com/example/laiskas/laiskas/protocol/Message" "quotaMarker" "Z" (.int (0 : Int32)) := D41 (Or.inr (hw _ (List.mem_of_getElem? (i := 45) rfl))) (ty := .boolean) (by decide)
      refine ownVia st41 ?_
      show ownFin _ _ _ _ _ (T41.setTop (mkF m 78 #[.val (.int p1), .val (.int p2), .val (.int p3), .val (.long q1), .second, .val (.int nv), .val (.int qv), .val (.int (p2.toInt8.toInt32)), .val (.int (p3.toInt8.toInt32)), .val (.ref b1), .unset, .unset, .unset] [(.ref b2)]))
      refine ownVia (fun _ k => XS.dup X41.here hx rfl (hb hby at_78) rfl rfl k) ?_
      show ownFin _ _ _ _ _ (T41.setTop (mkF m 79 #[.val (.int p1), .val (.int p2), .val (.int p3), .val (.long q1), .second, .val (.int nv), .val (.int qv), .val (.int (p2.toInt8.toInt32)), .val (.int (p3.toInt8.toInt32)), .val (.ref b1), .unset, .unset, .unset] [(.ref b2), (.ref b2)]))
      refine ownVia (fun _ k => XS.iconst X41.here hx rfl (hb hby at_79) k) ?_
      show ownFin _ _ _ _ _ (T41.setTop (mkF m 80 #[.val (.int p1), .val (.int p2), .val (.int p3), .val (.long q1), .second, .val (.int nv), .val (.int qv), .val (.int (p2.toInt8.toInt32)), .val (.int (p3.toInt8.toInt32)), .val (.ref b1), .unset, .unset, .unset] [(.int (0 : Int32)), (.ref b2), (.ref b2)]))
      refine ownNewP X41 hx hZ (hw _ (List.mem_of_getElem? (i := 0) rfl)) e41 "[B" (by decide) (by decide) (0) (by decide) (0) (by decide) (by decide) (by decide) (by decide) (hb hby at_80) ?_
      intro T42 h42 k_b3 b3 g42 X42 e42 E42 A_b3 E_b3
      have ne_b1_b3 : b1 ≠ b3 := Nat.ne_of_lt (Nat.lt_of_lt_of_le E_b1.lt (Nat.le_of_eq g42.symm))
      have ne_b2_b3 : b2 ≠ b3 := Nat.ne_of_lt (Nat.lt_of_lt_of_le E_b2.lt (Nat.le_of_eq g42.symm))
      have ge_b3 : n0 ≤ b3 := Nat.le_trans Z0 (Nat.le_of_eq g42.symm)
      have A_b1 := A_b1.ext E42
      have E_b1 := E_b1.ext E42
      have E_b2 := E_b2.ext E42
      have F_b2_id := F_b2_id.ext E42
      have F_b2_acceptedMillis := F_b2_acceptedMillis.ext E42
      have F_b2_flags := F_b2_flags.ext E42
      have F_b2_body := F_b2_body.ext E42
      have F_b2_quotaMarker := F_b2_quotaMarker.ext E42
      have O := O.ext E42
      have Z0 := own_sz Z0 E42
      have A_b3 : Arv Z h42 b3 k_b3 .byte (0 : Int32) [] (.int (0 : Int32)) := A_b3
      show ownFin _ _ _ _ _ (T42.setTop (mkF m 82 #[.val (.int p1), .val (.int p2), .val (.int p3), .val (.long q1), .second, .val (.int nv), .val (.int qv), .val (.int (p2.toInt8.toInt32)), .val (.int (p3.toInt8.toInt32)), .val (.ref b1), .unset, .unset, .unset] [(.ref b3), (.ref b2), (.ref b2)]))
      refine ownVia (fun _ k => XS.lloadN X42.here hx rfl (hb hby at_82) rfl k) ?_
      show ownFin _ _ _ _ _ (T42.setTop (mkF m 83 #[.val (.int p1), .val (.int p2), .val (.int p3), .val (.long q1), .second, .val (.int nv), .val (.int qv), .val (.int (p2.toInt8.toInt32)), .val (.int (p3.toInt8.toInt32)), .val (.ref b1), .unset, .unset, .unset] [(.long q1), (.ref b3), (.ref b2), (.ref b2)]))
      refine ownVia (fun _ k => XS.aload X42.here hx rfl (hb hby at_83) rfl rfl k) ?_
      show ownFin _ _ _ _ _ (T42.setTop (mkF m 85 #[.val (.int p1), .val (.int p2), .val (.int p3), .val (.long q1), .second, .val (.int nv), .val (.int qv), .val (.int (p2.toInt8.toInt32)), .val (.int (p3.toInt8.toInt32)), .val (.ref b1), .unset, .unset, .unset] [(.ref b1), (.long q1), (.ref b3), (.ref b2), (.ref b2)]))
      refine ownVia (fun _ k => XS.iconst X42.here hx rfl (hb hby at_85) k) ?_
      show ownFin _ _ _ _ _ (T42.setTop (mkF m 86 #[.val (.int p1), .val (.int p2), .val (.int p3), .val (.long q1), .second, .val (.int nv), .val (.int qv), .val (.int (p2.toInt8.toInt32)), .val (.int (p3.toInt8.toInt32)), .val (.ref b1), .unset, .unset, .unset] [(.int (0 : Int32)), (.ref b1), (.long q1), (.ref b3), (.ref b2), (.ref b2)]))
      refine ownNewP X42 hx hZ (hw _ (List.mem_of_getElem? (i := 0) rfl)) e42 "[B" (by decide) (by decide) (0) (by decide) (0) (by decide) (by decide) (by decide) (by decide) (hb hby at_86) ?_
      intro T43 h43 k_b4 b4 g43 X43 e43 E43 A_b4 E_b4
      have ne_b1_b4 : b1 ≠ b4 := Nat.ne_of_lt (Nat.lt_of_lt_of_le E_b1.lt (Nat.le_of_eq g43.symm))
      have ne_b2_b4 : b2 ≠ b4 := Nat.ne_of_lt (Nat.lt_of_lt_of_le E_b2.lt (Nat.le_of_eq g43.symm))
      have ne_b3_b4 : b3 ≠ b4 := Nat.ne_of_lt (Nat.lt_of_lt_of_le E_b3.lt (Nat.le_of_eq g43.symm))
      have ge_b4 : n0 ≤ b4 := Nat.le_trans Z0 (Nat.le_of_eq g43.symm)
      have A_b1 := A_b1.ext E43
      have E_b1 := E_b1.ext E43
      have E_b2 := E_b2.ext E43
      have F_b2_id := F_b2_id.ext E43
      have F_b2_acceptedMillis := F_b2_acceptedMillis.ext E43
      have F_b2_flags := F_b2_flags.ext E43
      have F_b2_body := F_b2_body.ext E43
      have F_b2_quotaMarker := F_b2_quotaMarker.ext E43
      have A_b3 := A_b3.ext E43
      have E_b3 := E_b3.ext E43
      have O := O.ext E43
      have Z0 := own_sz Z0 E43
      have A_b4 : Arv Z h43 b4 k_b4 .byte (0 : Int32) [] (.int (0 : Int32)) := A_b4
      show ownFin _ _ _ _ _ (T43.setTop (mkF m 88 #[.val (.int p1), .val (.int p2), .val (.int p3), .val (.long q1), .second, .val (.int nv), .val (.int qv), .val (.int (p2.toInt8.toInt32)), .val (.int (p3.toInt8.toInt32)), .val (.ref b1), .unset, .unset, .unset] [(.ref b4), (.ref b1), (.long q1), (.ref b3), (.ref b2), (.ref b2)]))
      refine ownCallN X43 hx hZ hown rfl (hw _ (List.mem_of_getElem? (i := 4) rfl)) (hw _ (List.mem_of_getElem? (i := 5) rfl)) (hw _ (List.mem_of_getElem? (i := 3) rfl)) (hw _ (List.mem_of_getElem? (i := 6) rfl)) (by decide) e43 (own_init4 l Z a0 hw b2 b3 q1 b1 b4 h43 n0 k_b3 k_b1 (0 : Int32) (0 : Int32) [] [] 0 0 k_b4 (0 : Int32) [] 0 Z0 F_b2_id F_b2_acceptedMillis F_b2_flags F_b2_body F_b2_quotaMarker E_b2 ge_b2 A_b3 E_b3 A_b1 E_b1 (by decide) (by decide) (by decide) (by decide) ne_b2_b3 (Ne.symm ne_b1_b2) A_b4 E_b4 (by decide) (by decide) ne_b2_b4) (by rw [hml]; rfl) b2 [(.ref b3), (.long q1), (.ref b1), (.ref b4)] [(.ref b2)] (lenOf own_pd3 rfl) rfl rfl 1 rfl (hb hby at_88) (by decide) (by decide) (by decide) (by decide) ?_
      intro v44 T44 L44 X44 hq44
      obtain ⟨rfl, N44q, K44, c1, c2, si44, sf44, F_b2_id, F_b2_acceptedMillis, F_b2_flags, F_b2_quotaMarker, A_c1, E_c1, A_c2⟩ := hq44
      have ne_b1_c1 : b1 ≠ c1 := Nat.ne_of_lt (Nat.lt_of_lt_of_le E_b1.lt si44)
      have ne_b2_c1 : b2 ≠ c1 := Nat.ne_of_lt (Nat.lt_of_lt_of_le E_b2.lt si44)
      have ne_b3_c1 : b3 ≠ c1 := Nat.ne_of_lt (Nat.lt_of_lt_of_le E_b3.lt si44)
      have ne_b4_c1 : b4 ≠ c1 := Nat.ne_of_lt (Nat.lt_of_lt_of_le E_b4.lt si44)
      have ge_c1 : n0 ≤ c1 := Nat.le_trans Z0 si44
      have ne_b1_c2 : b1 ≠ c2 := Nat.ne_of_lt (Nat.lt_of_lt_of_le E_b1.lt sf44)
      have ne_b2_c2 : b2 ≠ c2 := Nat.ne_of_lt (Nat.lt_of_lt_of_le E_b2.lt sf44)
      have ne_b3_c2 : b3 ≠ c2 := Nat.ne_of_lt (Nat.lt_of_lt_of_le E_b3.lt sf44)
      have ne_b4_c2 : b4 ≠ c2 := Nat.ne_of_lt (Nat.lt_of_lt_of_le E_b4.lt sf44)
      have ge_c2 : n0 ≤ c2 := Nat.le_trans Z0 sf44
      have A_b1 := A_b1.keep K44 (ninS ne_b1_b2 nin0)
      have E_b1 := E_b1.keep K44
      have E_b2 := E_b2.keep K44
      have A_b3 := A_b3.keep K44 (ninS (Ne.symm ne_b2_b3) nin0)
      have E_b3 := E_b3.keep K44
      have A_b4 := A_b4.keep K44 (ninS (Ne.symm ne_b2_b4) nin0)
      have E_b4 := E_b4.keep K44
      have Z0 := Nat.le_trans Z0 K44.1
      have O := O.keep K44 (allS ge_b2 all0)
      have N44 := Fr.app N0 N44q
      show ownFin _ _ _ _ _ (T44.setTop (mkF m 91 #[.val (.int p1), .val (.int p2), .val (.int p3), .val (.long q1), .second, .val (.int nv), .val (.int qv), .val (.int (p2.toInt8.toInt32)), .val (.int (p3.toInt8.toInt32)), .val (.ref b1), .unset, .unset, .unset] [(.ref b2)]))
      refine ownVia (fun _ k => XS.astore X44.here hx rfl (hb hby at_91) rfl rfl (l' := #[.val (.int p1), .val (.int p2), .val (.int p3), .val (.long q1), .second, .val (.int nv), .val (.int qv), .val (.int (p2.toInt8.toInt32)), .val (.int (p3.toInt8.toInt32)), .val (.ref b1), .val (.ref b2), .unset, .unset]) rfl k) ?_
      show ownFin _ _ _ _ _ (T44.setTop (mkF m 93 #[.val (.int p1), .val (.int p2), .val (.int p3), .val (.long q1), .second, .val (.int nv), .val (.int qv), .val (.int (p2.toInt8.toInt32)), .val (.int (p3.toInt8.toInt32)), .val (.ref b1), .val (.ref b2), .unset, .unset] []))
      refine ownVia (fun _ k => XS.iload X44.here hx rfl (hb hby at_93) rfl k) ?_
      show ownFin _ _ _ _ _ (T44.setTop (mkF m 95 #[.val (.int p1), .val (.int p2), .val (.int p3), .val (.long q1), .second, .val (.int nv), .val (.int qv), .val (.int (p2.toInt8.toInt32)), .val (.int (p3.toInt8.toInt32)), .val (.ref b1), .val (.ref b2), .unset, .unset] [(.int nv)]))
      refine ownVia (fun _ k => XS.ifYes X44.here hx rfl (pc0 := 95) (pc' := 112) rfl (hb hby at_95) rfl ((if0 _ _).trans (flt (own_nlt (by decide : (0 : Int32).toInt = 0) (by omega : nv.toInt = 0) (by decide))).2.2.2) (by decide) (by decide) k) ?_
      show ownFin _ _ _ _ _ (T44.setTop (mkF m 112 #[.val (.int p1), .val (.int p2), .val (.int p3), .val (.long q1), .second, .val (.int nv), .val (.int qv), .val (.int (p2.toInt8.toInt32)), .val (.int (p3.toInt8.toInt32)), .val (.ref b1), .val (.ref b2), .unset, .unset] []))
      refine ownVia (fun _ k => XS.iconst X44.here hx rfl (hb hby at_112) k) ?_
      show ownFin _ _ _ _ _ (T44.setTop (mkF m 113 #[.val (.int p1), .val (.int p2), .val (.int p3), .val (.long q1), .second, .val (.int nv), .val (.int qv), .val (.int (p2.toInt8.toInt32)), .val (.int (p3.toInt8.toInt32)), .val (.ref b1), .val (.ref b2), .unset, .unset] [(.int (0 : Int32))]))
      refine ownVia (fun _ k => XS.istore X44.here hx rfl (hb hby at_113) rfl (l' := #[.val (.int p1), .val (.int p2), .val (.int p3), .val (.long q1), .second, .val (.int nv), .val (.int qv), .val (.int (p2.toInt8.toInt32)), .val (.int (p3.toInt8.toInt32)), .val (.ref b1), .val (.ref b2), .val (.int (0 : Int32)), .unset]) rfl k) ?_
      show ownFin _ _ _ _ _ (T44.setTop (mkF m 115 #[.val (.int p1), .val (.int p2), .val (.int p3), .val (.long q1), .second, .val (.int nv), .val (.int qv), .val (.int (p2.toInt8.toInt32)), .val (.int (p3.toInt8.toInt32)), .val (.ref b1), .val (.ref b2), .val (.int (0 : Int32)), .unset] []))
      refine ownVia (fun _ k => XS.iload X44.here hx rfl (hb hby at_115) rfl k) ?_
      show ownFin _ _ _ _ _ (T44.setTop (mkF m 117 #[.val (.int p1), .val (.int p2), .val (.int p3), .val (.long q1), .second, .val (.int nv), .val (.int qv), .val (.int (p2.toInt8.toInt32)), .val (.int (p3.toInt8.toInt32)), .val (.ref b1), .val (.ref b2), .val (.int (0 : Int32)), .unset] [(.int nv)]))
      refine ownVia (fun _ k => XS.ifYes X44.here hx rfl (pc0 := 117) (pc' := 131) rfl (hb hby at_117) rfl ((if0 _ _).trans (flt (own_nlt (by decide : (0 : Int32).toInt = 0) (by omega : nv.toInt = 0) (by decide))).2.2.2) (by decide) (by decide) k) ?_
      show ownFin _ _ _ _ _ (T44.setTop (mkF m 131 #[.val (.int p1), .val (.int p2), .val (.int p3), .val (.long q1), .second, .val (.int nv), .val (.int qv), .val (.int (p2.toInt8.toInt32)), .val (.int (p3.toInt8.toInt32)), .val (.ref b1), .val (.ref b2), .val (.int (0 : Int32)), .unset] []))
      refine ownVia (fun _ k => XS.aload X44.here hx rfl (hb hby at_131) rfl rfl k) ?_
      show ownFin _ _ _ _ _ (T44.setTop (mkF m 133 #[.val (.int p1), .val (.int p2), .val (.int p3), .val (.long q1), .second, .val (.int nv), .val (.int qv), .val (.int (p2.toInt8.toInt32)), .val (.int (p3.toInt8.toInt32)), .val (.ref b1), .val (.ref b2), .val (.int (0 : Int32)), .unset] [(.ref b2)]))
      refine ownCallV X44 hx hZ hown (hw _ (List.mem_of_getElem? (i := 46) rfl)) (hw _ (List.mem_of_getElem? (i := 47) rfl)) (hw _ (List.mem_of_getElem? (i := 49) rfl)) (hw _ (List.mem_of_getElem? (i := 49) rfl)) (hw _ (List.mem_of_getElem? (i := 48) rfl)) (hw _ (List.mem_of_getElem? (i := 3) rfl)) (hw _ (List.mem_of_getElem? (i := 50) rfl)) (by decide) (rfl : T44.heap = T44.heap) E_b2 (own_not l Z a0 hw b2 T44.heap n0 c2 k_b1 (0 : Int32) ([] : List Int32) Z0 F_b2_quotaMarker F_b2_flags A_c2 (by show (0 : Int32).toInt = ((0 : Nat) : Int); decide)) (by rw [hml]; rfl) [] [] (lenOf own_pd4 rfl) rfl rfl 0 rfl (hb hby at_133) (by decide) (by decide) (by decide) (by decide) ?_
      intro v45 T45 L45 X45 hq45
      obtain ⟨rfl, N45q, eq45⟩ := hq45
      have N45 := Fr.app N44 N45q
      have e45 : T45.heap = T44.heap := eq45
      show ownFin _ _ _ _ _ (T45.setTop (mkF m 136 #[.val (.int p1), .val (.int p2), .val (.int p3), .val (.long q1), .second, .val (.int nv), .val (.int qv), .val (.int (p2.toInt8.toInt32)), .val (.int (p3.toInt8.toInt32)), .val (.ref b1), .val (.ref b2), .val (.int (0 : Int32)), .unset] [(.int (own_nf ([] : List Int32)))]))
      refine ownVia (fun _ k => XS.iload X45.here hx rfl (hb hby at_136) rfl k) ?_
      show ownFin _ _ _ _ _ (T45.setTop (mkF m 138 #[.val (.int p1), .val (.int p2), .val (.int p3), .val (.long q1), .second, .val (.int nv), .val (.int qv), .val (.int (p2.toInt8.toInt32)), .val (.int (p3.toInt8.toInt32)), .val (.ref b1), .val (.ref b2), .val (.int (0 : Int32)), .unset] [(.int (0 : Int32)), (.int (own_nf ([] : List Int32)))]))
      refine ownVia (fun _ k => XS.icmpNo X45.here hx rfl (hb hby at_138) rfl (teq (own_nf0 (fun z => absurd z.1 (by decide)))).2 k) ?_
      show ownFin _ _ _ _ _ (T45.setTop (mkF m 141 #[.val (.int p1), .val (.int p2), .val (.int p3), .val (.long q1), .second, .val (.int nv), .val (.int qv), .val (.int (p2.toInt8.toInt32)), .val (.int (p3.toInt8.toInt32)), .val (.ref b1), .val (.ref b2), .val (.int (0 : Int32)), .unset] []))
      refine ownVia (fun _ k => XS.iconst X45.here hx rfl (hb hby at_141) k) ?_
      show ownFin _ _ _ _ _ (T45.setTop (mkF m 142 #[.val (.int p1), .val (.int p2), .val (.int p3), .val (.long q1), .second, .val (.int nv), .val (.int qv), .val (.int (p2.toInt8.toInt32)), .val (.int (p3.toInt8.toInt32)), .val (.ref b1), .val (.ref b2), .val (.int (0 : Int32)), .unset] [(.int (1 : Int32))]))
      refine ownVia (fun _ k => XS.goto X45.here hx rfl (pc0 := 142) (pc' := 146) rfl (hb hby at_142) (by decide) (by decide) k) ?_
      show ownFin _ _ _ _ _ (T45.setTop (mkF m 146 #[.val (.int p1), .val (.int p2), .val (.int p3), .val (.long q1), .second, .val (.int nv), .val (.int qv), .val (.int (p2.toInt8.toInt32)), .val (.int (p3.toInt8.toInt32)), .val (.ref b1), .val (.ref b2), .val (.int (0 : Int32)), .unset] [(.int (1 : Int32))]))
      refine ownVia (fun _ k => XS.istore X45.here hx rfl (hb hby at_146) rfl (l' := #[.val (.int p1), .val (.int p2), .val (.int p3), .val (.long q1), .second, .val (.int nv), .val (.int qv), .val (.int (p2.toInt8.toInt32)), .val (.int (p3.toInt8.toInt32)), .val (.ref b1), .val (.ref b2), .val (.int (0 : Int32)), .val (.int (1 : Int32))]) rfl k) ?_
      show ownFin _ _ _ _ _ (T45.setTop (mkF m 148 #[.val (.int p1), .val (.int p2), .val (.int p3), .val (.long q1), .second, .val (.int nv), .val (.int qv), .val (.int (p2.toInt8.toInt32)), .val (.int (p3.toInt8.toInt32)), .val (.ref b1), .val (.ref b2), .val (.int (0 : Int32)), .val (.int (1 : Int32))] []))
      refine ownVia (fun _ k => XS.iload X45.here hx rfl (hb hby at_148) rfl k) ?_
      show ownFin _ _ _ _ _ (T45.setTop (mkF m 150 #[.val (.int p1), .val (.int p2), .val (.int p3), .val (.long q1), .second, .val (.int nv), .val (.int qv), .val (.int (p2.toInt8.toInt32)), .val (.int (p3.toInt8.toInt32)), .val (.ref b1), .val (.ref b2), .val (.int (0 : Int32)), .val (.int (1 : Int32))] [(.int qv)]))
      by_cases hc46 : qv = (0 : Int32)
      case pos =>
        have hc46I : qv.toInt = 0 := (own_eqi rfl (by decide)).mp hc46
        refine ownVia (fun _ k => XS.ifYes X45.here hx rfl (pc0 := 150) (pc' := 176) rfl (hb hby at_150) rfl ((if0 _ _).trans (teq hc46).1) (by decide) (by decide) k) ?_
        show ownFin _ _ _ _ _ (T45.setTop (mkF m 176 #[.val (.int p1), .val (.int p2), .val (.int p3), .val (.long q1), .second, .val (.int nv), .val (.int qv), .val (.int (p2.toInt8.toInt32)), .val (.int (p3.toInt8.toInt32)), .val (.ref b1), .val (.ref b2), .val (.int (0 : Int32)), .val (.int (1 : Int32))] []))
        refine ownVia (fun _ k => XS.iload X45.here hx rfl (hb hby at_176) rfl k) ?_
        show ownFin _ _ _ _ _ (T45.setTop (mkF m 178 #[.val (.int p1), .val (.int p2), .val (.int p3), .val (.long q1), .second, .val (.int nv), .val (.int qv), .val (.int (p2.toInt8.toInt32)), .val (.int (p3.toInt8.toInt32)), .val (.ref b1), .val (.ref b2), .val (.int (0 : Int32)), .val (.int (1 : Int32))] [(.int (1 : Int32))]))
        refine ownRetZ X45 hx hlk hret (hb hby at_178) (by decide) (by decide) (Or.inr rfl) ?_
        show (Q_own_law Z p1 p2 p3 q1 h0 n0 sN sE kN) (some (.int (1 : Int32))) T45.heap _
        rw [e45]
        exact ⟨rfl, N45⟩
      case neg =>
        have hc46I : ¬ qv.toInt = 0 := fun q => hc46 ((own_eqi rfl (by decide)).mpr q)
        refine ownVia (fun _ k => XS.ifNo X45.here hx rfl (hb hby at_150) rfl ((if0 _ _).trans (feq hc46).1) k) ?_
        show ownFin _ _ _ _ _ (T45.setTop (mkF m 153 #[.val (.int p1), .val (.int p2), .val (.int p3), .val (.long q1), .second, .val (.int nv), .val (.int qv), .val (.int (p2.toInt8.toInt32)), .val (.int (p3.toInt8.toInt32)), .val (.ref b1), .val (.ref b2), .val (.int (0 : Int32)), .val (.int (1 : Int32))] []))
        refine ownVia (fun _ k => XS.iload X45.here hx rfl (hb hby at_153) rfl k) ?_
        show ownFin _ _ _ _ _ (T45.setTop (mkF m 155 #[.val (.int p1), .val (.int p2), .val (.int p3), .val (.long q1), .second, .val (.int nv), .val (.int qv), .val (.int (p2.toInt8.toInt32)), .val (.int (p3.toInt8.toInt32)), .val (.ref b1), .val (.ref b2), .val (.int (0 : Int32)), .val (.int (1 : Int32))] [(.int (1 : Int32))]))
        refine ownVia (fun _ k => XS.ifNo X45.here hx rfl (hb hby at_155) rfl ((if0 _ _).trans (feq (by decide)).1) k) ?_
        show ownFin _ _ _ _ _ (T45.setTop (mkF m 158 #[.val (.int p1), .val (.int p2), .val (.int p3), .val (.long q1), .second, .val (.int nv), .val (.int qv), .val (.int (p2.toInt8.toInt32)), .val (.int (p3.toInt8.toInt32)), .val (.ref b1), .val (.ref b2), .val (.int (0 : Int32)), .val (.int (1 : Int32))] []))
        refine ownVia (fun _ k => XS.aload X45.here hx rfl (hb hby at_158) rfl rfl k) ?_
        show ownFin _ _ _ _ _ (T45.setTop (mkF m 160 #[.val (.int p1), .val (.int p2), .val (.int p3), .val (.long q1), .second, .val (.int nv), .val (.int qv), .val (.int (p2.toInt8.toInt32)), .val (.int (p3.toInt8.toInt32)), .val (.ref b1), .val (.ref b2), .val (.int (0 : Int32)), .val (.int (1 : Int32))] [(.ref b2)]))
        refine ownCallV X45 hx hZ hown (hw _ (List.mem_of_getElem? (i := 51) rfl)) (hw _ (List.mem_of_getElem? (i := 52) rfl)) (hw _ (List.mem_of_getElem? (i := 54) rfl)) (hw _ (List.mem_of_getElem? (i := 54) rfl)) (hw _ (List.mem_of_getElem? (i := 53) rfl)) (hw _ (List.mem_of_getElem? (i := 3) rfl)) (hw _ (List.mem_of_getElem? (i := 55) rfl)) (by decide) e45 E_b2 (own_qm l Z a0 hw b2 T44.heap n0 c1 sN sE k_b3 kN q1 (0 : Int32) (0 : Int32) [] [] 0 0 Z0 F_b2_id F_b2_acceptedMillis A_c1 E_c1 (by decide) (by decide) (S_N.ext O.2) (S_E.ext O.2) (A_sN.ext O.2) (E_sN.ext O.2) (by decide) (by decide)) (by rw [hml]; rfl) [] [] (lenOf own_pd5 rfl) rfl rfl 0 rfl (hb hby at_160) (by decide) (by decide) (by decide) (by decide) ?_
        intro v47 T47 L47 X47 hq47
        obtain ⟨d1, rfl, N47q, K47, sq47, E_d1, F_d1⟩ := hq47
        have Z0 := Nat.le_trans Z0 K47.1
        have O := O.keep K47 all0
        have N47 := Fr.app N45 N47q
        show ownFin _ _ _ _ _ (T47.setTop (mkF m 163 #[.val (.int p1), .val (.int p2), .val (.int p3), .val (.long q1), .second, .val (.int nv), .val (.int qv), .val (.int (p2.toInt8.toInt32)), .val (.int (p3.toInt8.toInt32)), .val (.ref b1), .val (.ref b2), .val (.int (0 : Int32)), .val (.int (1 : Int32))] [(.ref d1)]))
        refine ownCallV X47 hx hZ hown (hw _ (List.mem_of_getElem? (i := 46) rfl)) (hw _ (List.mem_of_getElem? (i := 47) rfl)) (hw _ (List.mem_of_getElem? (i := 49) rfl)) (hw _ (List.mem_of_getElem? (i := 49) rfl)) (hw _ (List.mem_of_getElem? (i := 48) rfl)) (hw _ (List.mem_of_getElem? (i := 3) rfl)) (hw _ (List.mem_of_getElem? (i := 50) rfl)) (by decide) (rfl : T47.heap = T47.heap) E_d1 (own_notq l Z a0 hw d1 T47.heap n0 Z0 F_d1) (by rw [hml]; rfl) [] [] (lenOf own_pd4 rfl) rfl rfl 0 rfl (hb hby at_163) (by decide) (by decide) (by decide) (by decide) ?_
        intro v48 T48 L48 X48 hq48
        obtain ⟨rfl, N48q, eq48⟩ := hq48
        have N48 := Fr.app N47 N48q
        have e48 : T48.heap = T47.heap := eq48
        show ownFin _ _ _ _ _ (T48.setTop (mkF m 166 #[.val (.int p1), .val (.int p2), .val (.int p3), .val (.long q1), .second, .val (.int nv), .val (.int qv), .val (.int (p2.toInt8.toInt32)), .val (.int (p3.toInt8.toInt32)), .val (.ref b1), .val (.ref b2), .val (.int (0 : Int32)), .val (.int (1 : Int32))] [(.int (0 : Int32))]))
        refine ownVia (fun _ k => XS.ifNo X48.here hx rfl (hb hby at_166) rfl ((if0 _ _).trans (teq rfl).2) k) ?_
        show ownFin _ _ _ _ _ (T48.setTop (mkF m 169 #[.val (.int p1), .val (.int p2), .val (.int p3), .val (.long q1), .second, .val (.int nv), .val (.int qv), .val (.int (p2.toInt8.toInt32)), .val (.int (p3.toInt8.toInt32)), .val (.ref b1), .val (.ref b2), .val (.int (0 : Int32)), .val (.int (1 : Int32))] []))
        refine ownVia (fun _ k => XS.iconst X48.here hx rfl (hb hby at_169) k) ?_
        show ownFin _ _ _ _ _ (T48.setTop (mkF m 170 #[.val (.int p1), .val (.int p2), .val (.int p3), .val (.long q1), .second, .val (.int nv), .val (.int qv), .val (.int (p2.toInt8.toInt32)), .val (.int (p3.toInt8.toInt32)), .val (.ref b1), .val (.ref b2), .val (.int (0 : Int32)), .val (.int (1 : Int32))] [(.int (1 : Int32))]))
        refine ownVia (fun _ k => XS.goto X48.here hx rfl (pc0 := 170) (pc' := 174) rfl (hb hby at_170) (by decide) (by decide) k) ?_
        show ownFin _ _ _ _ _ (T48.setTop (mkF m 174 #[.val (.int p1), .val (.int p2), .val (.int p3), .val (.long q1), .second, .val (.int nv), .val (.int qv), .val (.int (p2.toInt8.toInt32)), .val (.int (p3.toInt8.toInt32)), .val (.ref b1), .val (.ref b2), .val (.int (0 : Int32)), .val (.int (1 : Int32))] [(.int (1 : Int32))]))
        refine ownVia (fun _ k => XS.istore X48.here hx rfl (hb hby at_174) rfl (l' := #[.val (.int p1), .val (.int p2), .val (.int p3), .val (.long q1), .second, .val (.int nv), .val (.int qv), .val (.int (p2.toInt8.toInt32)), .val (.int (p3.toInt8.toInt32)), .val (.ref b1), .val (.ref b2), .val (.int (0 : Int32)), .val (.int (1 : Int32))]) rfl k) ?_
        show ownFin _ _ _ _ _ (T48.setTop (mkF m 176 #[.val (.int p1), .val (.int p2), .val (.int p3), .val (.long q1), .second, .val (.int nv), .val (.int qv), .val (.int (p2.toInt8.toInt32)), .val (.int (p3.toInt8.toInt32)), .val (.ref b1), .val (.ref b2), .val (.int (0 : Int32)), .val (.int (1 : Int32))] []))
        refine ownVia (fun _ k => XS.iload X48.here hx rfl (hb hby at_176) rfl k) ?_
        show ownFin _ _ _ _ _ (T48.setTop (mkF m 178 #[.val (.int p1), .val (.int p2), .val (.int p3), .val (.long q1), .second, .val (.int nv), .val (.int qv), .val (.int (p2.toInt8.toInt32)), .val (.int (p3.toInt8.toInt32)), .val (.ref b1), .val (.ref b2), .val (.int (0 : Int32)), .val (.int (1 : Int32))] [(.int (1 : Int32))]))
        refine ownRetZ X48 hx hlk hret (hb hby at_178) (by decide) (by decide) (Or.inr rfl) ?_
        show (Q_own_law Z p1 p2 p3 q1 h0 n0 sN sE kN) (some (.int (1 : Int32))) T48.heap _
        rw [e48]
        exact ⟨rfl, N48⟩
    case neg =>
      have hc39I : ¬ nv.toInt = 0 := fun q => hc39 ((own_eqi rfl (by decide)).mpr q)
      refine ownVia (fun _ k => XS.ifYes X0.here hx rfl (pc0 := 30) (pc' := 41) rfl (hb hby at_30) rfl ((if0 _ _).trans (feq hc39).2) (by decide) (by decide) k) ?_
      show ownFin _ _ _ _ _ (T0.setTop (mkF m 41 #[.val (.int p1), .val (.int p2), .val (.int p3), .val (.long q1), .second, .val (.int nv), .val (.int qv), .val (.int (p2.toInt8.toInt32)), .val (.int (p3.toInt8.toInt32)), .unset, .unset, .unset, .unset] []))
      refine ownVia (fun _ k => XS.iload X0.here hx rfl (hb hby at_41) rfl k) ?_
      show ownFin _ _ _ _ _ (T0.setTop (mkF m 43 #[.val (.int p1), .val (.int p2), .val (.int p3), .val (.long q1), .second, .val (.int nv), .val (.int qv), .val (.int (p2.toInt8.toInt32)), .val (.int (p3.toInt8.toInt32)), .unset, .unset, .unset, .unset] [(.int nv)]))
      refine ownVia (fun _ k => XS.iconst X0.here hx rfl (hb hby at_43) k) ?_
      show ownFin _ _ _ _ _ (T0.setTop (mkF m 44 #[.val (.int p1), .val (.int p2), .val (.int p3), .val (.long q1), .second, .val (.int nv), .val (.int qv), .val (.int (p2.toInt8.toInt32)), .val (.int (p3.toInt8.toInt32)), .unset, .unset, .unset, .unset] [(.int (1 : Int32)), (.int nv)]))
      by_cases hc49 : nv = (1 : Int32)
      case pos =>
        have hc49I : nv.toInt = 1 := (own_eqi rfl (by decide)).mp hc49
        refine ownVia (fun _ k => XS.icmpNo X0.here hx rfl (hb hby at_44) rfl (teq hc49).2 k) ?_
        show ownFin _ _ _ _ _ (T0.setTop (mkF m 47 #[.val (.int p1), .val (.int p2), .val (.int p3), .val (.long q1), .second, .val (.int nv), .val (.int qv), .val (.int (p2.toInt8.toInt32)), .val (.int (p3.toInt8.toInt32)), .unset, .unset, .unset, .unset] []))
        refine ownVia (fun _ k => XS.iconst X0.here hx rfl (hb hby at_47) k) ?_
        show ownFin _ _ _ _ _ (T0.setTop (mkF m 48 #[.val (.int p1), .val (.int p2), .val (.int p3), .val (.long q1), .second, .val (.int nv), .val (.int qv), .val (.int (p2.toInt8.toInt32)), .val (.int (p3.toInt8.toInt32)), .unset, .unset, .unset, .unset] [(.int (1 : Int32))]))
        refine ownNewP X0 hx hZ (hw _ (List.mem_of_getElem? (i := 0) rfl)) e0 "[B" (by decide) (by decide) (1) (by decide) (1) (by decide) (by decide) (by decide) (by decide) (hb hby at_48) ?_
        intro T50 h50 k_b1 b1 g50 X50 e50 E50 A_b1 E_b1
        have ge_b1 : n0 ≤ b1 := Nat.le_trans Z0 (Nat.le_of_eq g50.symm)
        have O := O.ext E50
        have Z0 := own_sz Z0 E50
        have A_b1 : Arv Z h50 b1 k_b1 .byte (1 : Int32) [(.int (0 : Int32))] (.int (0 : Int32)) := A_b1
        show ownFin _ _ _ _ _ (T50.setTop (mkF m 50 #[.val (.int p1), .val (.int p2), .val (.int p3), .val (.long q1), .second, .val (.int nv), .val (.int qv), .val (.int (p2.toInt8.toInt32)), .val (.int (p3.toInt8.toInt32)), .unset, .unset, .unset, .unset] [(.ref b1)]))
        refine ownVia (fun _ k => XS.dup X50.here hx rfl (hb hby at_50) rfl rfl k) ?_
        show ownFin _ _ _ _ _ (T50.setTop (mkF m 51 #[.val (.int p1), .val (.int p2), .val (.int p3), .val (.long q1), .second, .val (.int nv), .val (.int qv), .val (.int (p2.toInt8.toInt32)), .val (.int (p3.toInt8.toInt32)), .unset, .unset, .unset, .unset] [(.ref b1), (.ref b1)]))
        refine ownVia (fun _ k => XS.iconst X50.here hx rfl (hb hby at_51) k) ?_
        show ownFin _ _ _ _ _ (T50.setTop (mkF m 52 #[.val (.int p1), .val (.int p2), .val (.int p3), .val (.long q1), .second, .val (.int nv), .val (.int qv), .val (.int (p2.toInt8.toInt32)), .val (.int (p3.toInt8.toInt32)), .unset, .unset, .unset, .unset] [(.int (0 : Int32)), (.ref b1), (.ref b1)]))
        refine ownVia (fun _ k => XS.iload X50.here hx rfl (hb hby at_52) rfl k) ?_
        show ownFin _ _ _ _ _ (T50.setTop (mkF m 54 #[.val (.int p1), .val (.int p2), .val (.int p3), .val (.long q1), .second, .val (.int nv), .val (.int qv), .val (.int (p2.toInt8.toInt32)), .val (.int (p3.toInt8.toInt32)), .unset, .unset, .unset, .unset] [(.int (p2.toInt8.toInt32)), (.int (0 : Int32)), (.ref b1), (.ref b1)]))
        refine ownBastore X50 hx hZ e50 A_b1 ⟨by decide, by decide⟩ (0) (by decide) (Nat.le_of_ble_eq_true rfl) N0 ge_b1 (hb hby at_54) ?_
        intro T51 h51 L51 X51 e51 N51 W51 A_b1
        have E_b1 := E_b1.wr W51
        have Z0 := own_szW Z0 W51
        have O := O.wr W51 ge_b1
        have A_b1 : Arv Z h51 b1 k_b1 .byte (1 : Int32) [(.int (nar .byte (p2.toInt8.toInt32)))] (.int (0 : Int32)) := A_b1
        show ownFin _ _ _ _ _ (T51.setTop (mkF m 55 #[.val (.int p1), .val (.int p2), .val (.int p3), .val (.long q1), .second, .val (.int nv), .val (.int qv), .val (.int (p2.toInt8.toInt32)), .val (.int (p3.toInt8.toInt32)), .unset, .unset, .unset, .unset] [(.ref b1)]))
        refine ownVia (fun _ k => XS.astore X51.here hx rfl (hb hby at_55) rfl rfl (l' := #[.val (.int p1), .val (.int p2), .val (.int p3), .val (.long q1), .second, .val (.int nv), .val (.int qv), .val (.int (p2.toInt8.toInt32)), .val (.int (p3.toInt8.toInt32)), .val (.ref b1), .unset, .unset, .unset]) rfl k) ?_
        show ownFin _ _ _ _ _ (T51.setTop (mkF m 57 #[.val (.int p1), .val (.int p2), .val (.int p3), .val (.long q1), .second, .val (.int nv), .val (.int qv), .val (.int (p2.toInt8.toInt32)), .val (.int (p3.toInt8.toInt32)), .val (.ref b1), .unset, .unset, .unset] []))
        refine ownVia (fun _ k => XS.goto X51.here hx rfl (pc0 := 57) (pc' := 75) rfl (hb hby at_57) (by decide) (by decide) k) ?_
        show ownFin _ _ _ _ _ (T51.setTop (mkF m 75 #[.val (.int p1), .val (.int p2), .val (.int p3), .val (.long q1), .second, .val (.int nv), .val (.int qv), .val (.int (p2.toInt8.toInt32)), .val (.int (p3.toInt8.toInt32)), .val (.ref b1), .unset, .unset, .unset] []))
        obtain ⟨T52, h52, X52, e52, E52, A52, D52, -, st52⟩ := newO X51 hx hZ hown (hw _ (List.mem_of_getElem? (i := 1) rfl)) (hw _ (List.mem_of_getElem? (i := 2) rfl)) (hw _ (List.mem_of_getElem? (i := 3) rfl)) e51 (g := (mkF m 75 #[.val (.int p1), .val (.int p2), .val (.int p3), .val (.long q1), .second, .val (.int nv), .val (.int qv), .val (.int (p2.toInt8.toInt32)), .val (.int (p3.toInt8.toInt32)), .val (.ref b1), .unset, .unset, .unset] [])) rfl (hb hby at_75) (by decide) (by decide)
        obtain ⟨b2, g52⟩ : ∃ z, z = h51.size := ⟨_, rfl⟩
        rw [← g52] at A52 D52 st52
        have ne_b1_b2 : b1 ≠ b2 := Nat.ne_of_lt (Nat.lt_of_lt_of_le E_b1.lt (Nat.le_of_eq g52.symm))
        have ge_b2 : n0 ≤ b2 := Nat.le_trans Z0 (Nat.le_of_eq g52.symm)
        have A_b1 := A_b1.ext E52
        have E_b1 := E_b1.ext E52
        have O := O.ext E52
        have Z0 := own_sz Z0 E52
        have E_b2 := A52
        have F_b2_id : Fld Z h52 b2 "com/example/laiskas/laiskas/protocol/Message" "id" "[B" .null := D52 (Or.inr (hw _ (List.mem_of_getElem? (i := 37) rfl))) (ty := (.array .byte)) (by decide)
        have F_b2_acceptedMillis : Fld Z h52 b2 "com/example/laiskas/laiskas/protocol/Message" "acceptedMillis" "J" (.long (0 : Int64)) := D52 (Or.inr (hw _ (List.mem_of_getElem? (i := 39) rfl))) (ty := .long) (by decide)
        have F_b2_flags : Fld Z h52 b2 "com/example/laiskas/laiskas/protocol/Message" "flags" "[B" .null := D52 (Or.inr (hw _ (List.mem_of_getElem? (i := 41) rfl))) (ty := (.array .byte)) (by decide)
        have F_b2_body : Fld Z h52 b2 "com/example/laiskas/laiskas/protocol/Message" "body" "Lcom/example/laiskas/laiskas/protocol/Message$Body;" .null := D52 (Or.inr (hw _ (List.mem_of_getElem? (i := 43) rfl))) (ty := (.object "com/example/laiskas/laiskas/protocol/Message$Body")) (by decide)
        have F_b2_quotaMarker : Fld Z h52 b2 "com/example/laiskas/laiskas/protocol/Message" "quotaMarker" "Z" (.int (0 : Int32)) := D52 (Or.inr (hw _ (List.mem_of_getElem? (i := 45) rfl))) (ty := .boolean) (by decide)
        refine ownVia st52 ?_
        show ownFin _ _ _ _ _ (T52.setTop (mkF m 78 #[.val (.int p1), .val (.int p2), .val (.int p3), .val (.long q1), .second, .val (.int nv), .val (.int qv), .val (.int (p2.toInt8.toInt32)), .val (.int (p3.toInt8.toInt32)), .val (.ref b1), .unset, .unset, .unset] [(.ref b2)]))
        refine ownVia (fun _ k => XS.dup X52.here hx rfl (hb hby at_78) rfl rfl k) ?_
        show ownFin _ _ _ _ _ (T52.setTop (mkF m 79 #[.val (.int p1), .val (.int p2), .val (.int p3), .val (.long q1), .second, .val (.int nv), .val (.int qv), .val (.int (p2.toInt8.toInt32)), .val (.int (p3.toInt8.toInt32)), .val (.ref b1), .unset, .unset, .unset] [(.ref b2), (.ref b2)]))
        refine ownVia (fun _ k => XS.iconst X52.here hx rfl (hb hby at_79) k) ?_
        show ownFin _ _ _ _ _ (T52.setTop (mkF m 80 #[.val (.int p1), .val (.int p2), .val (.int p3), .val (.long q1), .second, .val (.int nv), .val (.int qv), .val (.int (p2.toInt8.toInt32)), .val (.int (p3.toInt8.toInt32)), .val (.ref b1), .unset, .unset, .unset] [(.int (0 : Int32)), (.ref b2), (.ref b2)]))
        refine ownNewP X52 hx hZ (hw _ (List.mem_of_getElem? (i := 0) rfl)) e52 "[B" (by decide) (by decide) (0) (by decide) (0) (by decide) (by decide) (by decide) (by decide) (hb hby at_80) ?_
        intro T53 h53 k_b3 b3 g53 X53 e53 E53 A_b3 E_b3
        have ne_b1_b3 : b1 ≠ b3 := Nat.ne_of_lt (Nat.lt_of_lt_of_le E_b1.lt (Nat.le_of_eq g53.symm))
        have ne_b2_b3 : b2 ≠ b3 := Nat.ne_of_lt (Nat.lt_of_lt_of_le E_b2.lt (Nat.le_of_eq g53.symm))
        have ge_b3 : n0 ≤ b3 := Nat.le_trans Z0 (Nat.le_of_eq g53.symm)
        have A_b1 := A_b1.ext E53
        have E_b1 := E_b1.ext E53
        have E_b2 := E_b2.ext E53
        have F_b2_id := F_b2_id.ext E53
        have F_b2_acceptedMillis := F_b2_acceptedMillis.ext E53
        have F_b2_flags := F_b2_flags.ext E53
        have F_b2_body := F_b2_body.ext E53
        have F_b2_quotaMarker := F_b2_quotaMarker.ext E53
        have O := O.ext E53
        have Z0 := own_sz Z0 E53
        have A_b3 : Arv Z h53 b3 k_b3 .byte (0 : Int32) [] (.int (0 : Int32)) := A_b3
        show ownFin _ _ _ _ _ (T53.setTop (mkF m 82 #[.val (.int p1), .val (.int p2), .val (.int p3), .val (.long q1), .second, .val (.int nv), .val (.int qv), .val (.int (p2.toInt8.toInt32)), .val (.int (p3.toInt8.toInt32)), .val (.ref b1), .unset, .unset, .unset] [(.ref b3), (.ref b2), (.ref b2)]))
        refine ownVia (fun _ k => XS.lloadN X53.here hx rfl (hb hby at_82) rfl k) ?_
        show ownFin _ _ _ _ _ (T53.setTop (mkF m 83 #[.val (.int p1), .val (.int p2), .val (.int p3), .val (.long q1), .second, .val (.int nv), .val (.int qv), .val (.int (p2.toInt8.toInt32)), .val (.int (p3.toInt8.toInt32)), .val (.ref b1), .unset, .unset, .unset] [(.long q1), (.ref b3), (.ref b2), (.ref b2)]))
        refine ownVia (fun _ k => XS.aload X53.here hx rfl (hb hby at_83) rfl rfl k) ?_
        show ownFin _ _ _ _ _ (T53.setTop (mkF m 85 #[.val (.int p1), .val (.int p2), .val (.int p3), .val (.long q1), .second, .val (.int nv), .val (.int qv), .val (.int (p2.toInt8.toInt32)), .val (.int (p3.toInt8.toInt32)), .val (.ref b1), .unset, .unset, .unset] [(.ref b1), (.long q1), (.ref b3), (.ref b2), (.ref b2)]))
        refine ownVia (fun _ k => XS.iconst X53.here hx rfl (hb hby at_85) k) ?_
        show ownFin _ _ _ _ _ (T53.setTop (mkF m 86 #[.val (.int p1), .val (.int p2), .val (.int p3), .val (.long q1), .second, .val (.int nv), .val (.int qv), .val (.int (p2.toInt8.toInt32)), .val (.int (p3.toInt8.toInt32)), .val (.ref b1), .unset, .unset, .unset] [(.int (0 : Int32)), (.ref b1), (.long q1), (.ref b3), (.ref b2), (.ref b2)]))
        refine ownNewP X53 hx hZ (hw _ (List.mem_of_getElem? (i := 0) rfl)) e53 "[B" (by decide) (by decide) (0) (by decide) (0) (by decide) (by decide) (by decide) (by decide) (hb hby at_86) ?_
        intro T54 h54 k_b4 b4 g54 X54 e54 E54 A_b4 E_b4
        have ne_b1_b4 : b1 ≠ b4 := Nat.ne_of_lt (Nat.lt_of_lt_of_le E_b1.lt (Nat.le_of_eq g54.symm))
        have ne_b2_b4 : b2 ≠ b4 := Nat.ne_of_lt (Nat.lt_of_lt_of_le E_b2.lt (Nat.le_of_eq g54.symm))
        have ne_b3_b4 : b3 ≠ b4 := Nat.ne_of_lt (Nat.lt_of_lt_of_le E_b3.lt (Nat.le_of_eq g54.symm))
        have ge_b4 : n0 ≤ b4 := Nat.le_trans Z0 (Nat.le_of_eq g54.symm)
        have A_b1 := A_b1.ext E54
        have E_b1 := E_b1.ext E54
        have E_b2 := E_b2.ext E54
        have F_b2_id := F_b2_id.ext E54
        have F_b2_acceptedMillis := F_b2_acceptedMillis.ext E54
        have F_b2_flags := F_b2_flags.ext E54
        have F_b2_body := F_b2_body.ext E54
        have F_b2_quotaMarker := F_b2_quotaMarker.ext E54
        have A_b3 := A_b3.ext E54
        have E_b3 := E_b3.ext E54
        have O := O.ext E54
        have Z0 := own_sz Z0 E54
        have A_b4 : Arv Z h54 b4 k_b4 .byte (0 : Int32) [] (.int (0 : Int32)) := A_b4
        show ownFin _ _ _ _ _ (T54.setTop (mkF m 88 #[.val (.int p1), .val (.int p2), .val (.int p3), .val (.long q1), .second, .val (.int nv), .val (.int qv), .val (.int (p2.toInt8.toInt32)), .val (.int (p3.toInt8.toInt32)), .val (.ref b1), .unset, .unset, .unset] [(.ref b4), (.ref b1), (.long q1), (.ref b3), (.ref b2), (.ref b2)]))
        refine ownCallN X54 hx hZ hown rfl (hw _ (List.mem_of_getElem? (i := 4) rfl)) (hw _ (List.mem_of_getElem? (i := 5) rfl)) (hw _ (List.mem_of_getElem? (i := 3) rfl)) (hw _ (List.mem_of_getElem? (i := 6) rfl)) (by decide) e54 (own_init4 l Z a0 hw b2 b3 q1 b1 b4 h54 n0 k_b3 k_b1 (0 : Int32) (1 : Int32) [] [(.int (nar .byte (p2.toInt8.toInt32)))] 0 1 k_b4 (0 : Int32) [] 0 Z0 F_b2_id F_b2_acceptedMillis F_b2_flags F_b2_body F_b2_quotaMarker E_b2 ge_b2 A_b3 E_b3 A_b1 E_b1 (by decide) (by decide) (by decide) (by decide) ne_b2_b3 (Ne.symm ne_b1_b2) A_b4 E_b4 (by decide) (by decide) ne_b2_b4) (by rw [hml]; rfl) b2 [(.ref b3), (.long q1), (.ref b1), (.ref b4)] [(.ref b2)] (lenOf own_pd3 rfl) rfl rfl 1 rfl (hb hby at_88) (by decide) (by decide) (by decide) (by decide) ?_
        intro v55 T55 L55 X55 hq55
        obtain ⟨rfl, N55q, K55, c1, c2, si55, sf55, F_b2_id, F_b2_acceptedMillis, F_b2_flags, F_b2_quotaMarker, A_c1, E_c1, A_c2⟩ := hq55
        have ne_b1_c1 : b1 ≠ c1 := Nat.ne_of_lt (Nat.lt_of_lt_of_le E_b1.lt si55)
        have ne_b2_c1 : b2 ≠ c1 := Nat.ne_of_lt (Nat.lt_of_lt_of_le E_b2.lt si55)
        have ne_b3_c1 : b3 ≠ c1 := Nat.ne_of_lt (Nat.lt_of_lt_of_le E_b3.lt si55)
        have ne_b4_c1 : b4 ≠ c1 := Nat.ne_of_lt (Nat.lt_of_lt_of_le E_b4.lt si55)
        have ge_c1 : n0 ≤ c1 := Nat.le_trans Z0 si55
        have ne_b1_c2 : b1 ≠ c2 := Nat.ne_of_lt (Nat.lt_of_lt_of_le E_b1.lt sf55)
        have ne_b2_c2 : b2 ≠ c2 := Nat.ne_of_lt (Nat.lt_of_lt_of_le E_b2.lt sf55)
        have ne_b3_c2 : b3 ≠ c2 := Nat.ne_of_lt (Nat.lt_of_lt_of_le E_b3.lt sf55)
        have ne_b4_c2 : b4 ≠ c2 := Nat.ne_of_lt (Nat.lt_of_lt_of_le E_b4.lt sf55)
        have ge_c2 : n0 ≤ c2 := Nat.le_trans Z0 sf55
        have A_b1 := A_b1.keep K55 (ninS ne_b1_b2 nin0)
        have E_b1 := E_b1.keep K55
        have E_b2 := E_b2.keep K55
        have A_b3 := A_b3.keep K55 (ninS (Ne.symm ne_b2_b3) nin0)
        have E_b3 := E_b3.keep K55
        have A_b4 := A_b4.keep K55 (ninS (Ne.symm ne_b2_b4) nin0)
        have E_b4 := E_b4.keep K55
        have Z0 := Nat.le_trans Z0 K55.1
        have O := O.keep K55 (allS ge_b2 all0)
        have N55 := Fr.app N51 N55q
        show ownFin _ _ _ _ _ (T55.setTop (mkF m 91 #[.val (.int p1), .val (.int p2), .val (.int p3), .val (.long q1), .second, .val (.int nv), .val (.int qv), .val (.int (p2.toInt8.toInt32)), .val (.int (p3.toInt8.toInt32)), .val (.ref b1), .unset, .unset, .unset] [(.ref b2)]))
        refine ownVia (fun _ k => XS.astore X55.here hx rfl (hb hby at_91) rfl rfl (l' := #[.val (.int p1), .val (.int p2), .val (.int p3), .val (.long q1), .second, .val (.int nv), .val (.int qv), .val (.int (p2.toInt8.toInt32)), .val (.int (p3.toInt8.toInt32)), .val (.ref b1), .val (.ref b2), .unset, .unset]) rfl k) ?_
        show ownFin _ _ _ _ _ (T55.setTop (mkF m 93 #[.val (.int p1), .val (.int p2), .val (.int p3), .val (.long q1), .second, .val (.int nv), .val (.int qv), .val (.int (p2.toInt8.toInt32)), .val (.int (p3.toInt8.toInt32)), .val (.ref b1), .val (.ref b2), .unset, .unset] []))
        refine ownVia (fun _ k => XS.iload X55.here hx rfl (hb hby at_93) rfl k) ?_
        show ownFin _ _ _ _ _ (T55.setTop (mkF m 95 #[.val (.int p1), .val (.int p2), .val (.int p3), .val (.long q1), .second, .val (.int nv), .val (.int qv), .val (.int (p2.toInt8.toInt32)), .val (.int (p3.toInt8.toInt32)), .val (.ref b1), .val (.ref b2), .unset, .unset] [(.int nv)]))
        refine ownVia (fun _ k => XS.ifNo X55.here hx rfl (hb hby at_95) rfl ((if0 _ _).trans (tlt ((own_lti (by decide : (0 : Int32).toInt = 0) (by omega : nv.toInt = 1)).mpr (by decide))).2.2.2) k) ?_
        show ownFin _ _ _ _ _ (T55.setTop (mkF m 98 #[.val (.int p1), .val (.int p2), .val (.int p3), .val (.long q1), .second, .val (.int nv), .val (.int qv), .val (.int (p2.toInt8.toInt32)), .val (.int (p3.toInt8.toInt32)), .val (.ref b1), .val (.ref b2), .unset, .unset] []))
        refine ownVia (fun _ k => XS.iloadN X55.here hx rfl (hb hby at_98) rfl k) ?_
        show ownFin _ _ _ _ _ (T55.setTop (mkF m 99 #[.val (.int p1), .val (.int p2), .val (.int p3), .val (.long q1), .second, .val (.int nv), .val (.int qv), .val (.int (p2.toInt8.toInt32)), .val (.int (p3.toInt8.toInt32)), .val (.ref b1), .val (.ref b2), .unset, .unset] [(.int p2)]))
        refine ownVia (fun _ k => XS.sipush X55.here hx rfl (hb hby at_99) k) ?_
        show ownFin _ _ _ _ _ (T55.setTop (mkF m 102 #[.val (.int p1), .val (.int p2), .val (.int p3), .val (.long q1), .second, .val (.int nv), .val (.int qv), .val (.int (p2.toInt8.toInt32)), .val (.int (p3.toInt8.toInt32)), .val (.ref b1), .val (.ref b2), .unset, .unset] [(.int (255 : Int32)), (.int p2)]))
        refine ownVia (fun _ k => XS.iand X55.here hx rfl (hb hby at_102) rfl k) ?_
        show ownFin _ _ _ _ _ (T55.setTop (mkF m 103 #[.val (.int p1), .val (.int p2), .val (.int p3), .val (.long q1), .second, .val (.int nv), .val (.int qv), .val (.int (p2.toInt8.toInt32)), .val (.int (p3.toInt8.toInt32)), .val (.ref b1), .val (.ref b2), .unset, .unset] [(.int (p2 &&& (255 : Int32)))]))
        refine ownVia (fun _ k => XS.bipush X55.here hx rfl (hb hby at_103) k) ?_
        show ownFin _ _ _ _ _ (T55.setTop (mkF m 105 #[.val (.int p1), .val (.int p2), .val (.int p3), .val (.long q1), .second, .val (.int nv), .val (.int qv), .val (.int (p2.toInt8.toInt32)), .val (.int (p3.toInt8.toInt32)), .val (.ref b1), .val (.ref b2), .unset, .unset] [(.int (84 : Int32)), (.int (p2 &&& (255 : Int32)))]))
        by_cases hc56 : (p2 &&& (255 : Int32)) = (84 : Int32)
        case pos =>
          have hc56I : (p2 &&& (255 : Int32)).toInt = 84 := (own_eqi rfl (by decide)).mp hc56
          refine ownVia (fun _ k => XS.icmpNo X55.here hx rfl (hb hby at_105) rfl (teq hc56).2 k) ?_
          show ownFin _ _ _ _ _ (T55.setTop (mkF m 108 #[.val (.int p1), .val (.int p2), .val (.int p3), .val (.long q1), .second, .val (.int nv), .val (.int qv), .val (.int (p2.toInt8.toInt32)), .val (.int (p3.toInt8.toInt32)), .val (.ref b1), .val (.ref b2), .unset, .unset] []))
          refine ownVia (fun _ k => XS.iconst X55.here hx rfl (hb hby at_108) k) ?_
          show ownFin _ _ _ _ _ (T55.setTop (mkF m 109 #[.val (.int p1), .val (.int p2), .val (.int p3), .val (.long q1), .second, .val (.int nv), .val (.int qv), .val (.int (p2.toInt8.toInt32)), .val (.int (p3.toInt8.toInt32)), .val (.ref b1), .val (.ref b2), .unset, .unset] [(.int (1 : Int32))]))
          refine ownVia (fun _ k => XS.goto X55.here hx rfl (pc0 := 109) (pc' := 113) rfl (hb hby at_109) (by decide) (by decide) k) ?_
          show ownFin _ _ _ _ _ (T55.setTop (mkF m 113 #[.val (.int p1), .val (.int p2), .val (.int p3), .val (.long q1), .second, .val (.int nv), .val (.int qv), .val (.int (p2.toInt8.toInt32)), .val (.int (p3.toInt8.toInt32)), .val (.ref b1), .val (.ref b2), .unset, .unset] [(.int (1 : Int32))]))
          refine ownVia (fun _ k => XS.istore X55.here hx rfl (hb hby at_113) rfl (l' := #[.val (.int p1), .val (.int p2), .val (.int p3), .val (.long q1), .second, .val (.int nv), .val (.int qv), .val (.int (p2.toInt8.toInt32)), .val (.int (p3.toInt8.toInt32)), .val (.ref b1), .val (.ref b2), .val (.int (1 : Int32)), .unset]) rfl k) ?_
          show ownFin _ _ _ _ _ (T55.setTop (mkF m 115 #[.val (.int p1), .val (.int p2), .val (.int p3), .val (.long q1), .second, .val (.int nv), .val (.int qv), .val (.int (p2.toInt8.toInt32)), .val (.int (p3.toInt8.toInt32)), .val (.ref b1), .val (.ref b2), .val (.int (1 : Int32)), .unset] []))
          refine ownVia (fun _ k => XS.iload X55.here hx rfl (hb hby at_115) rfl k) ?_
          show ownFin _ _ _ _ _ (T55.setTop (mkF m 117 #[.val (.int p1), .val (.int p2), .val (.int p3), .val (.long q1), .second, .val (.int nv), .val (.int qv), .val (.int (p2.toInt8.toInt32)), .val (.int (p3.toInt8.toInt32)), .val (.ref b1), .val (.ref b2), .val (.int (1 : Int32)), .unset] [(.int nv)]))
          refine ownVia (fun _ k => XS.ifNo X55.here hx rfl (hb hby at_117) rfl ((if0 _ _).trans (tlt ((own_lti (by decide : (0 : Int32).toInt = 0) (by omega : nv.toInt = 1)).mpr (by decide))).2.2.2) k) ?_
          show ownFin _ _ _ _ _ (T55.setTop (mkF m 120 #[.val (.int p1), .val (.int p2), .val (.int p3), .val (.long q1), .second, .val (.int nv), .val (.int qv), .val (.int (p2.toInt8.toInt32)), .val (.int (p3.toInt8.toInt32)), .val (.ref b1), .val (.ref b2), .val (.int (1 : Int32)), .unset] []))
          refine ownVia (fun _ k => XS.aload X55.here hx rfl (hb hby at_120) rfl rfl k) ?_
          show ownFin _ _ _ _ _ (T55.setTop (mkF m 122 #[.val (.int p1), .val (.int p2), .val (.int p3), .val (.long q1), .second, .val (.int nv), .val (.int qv), .val (.int (p2.toInt8.toInt32)), .val (.int (p3.toInt8.toInt32)), .val (.ref b1), .val (.ref b2), .val (.int (1 : Int32)), .unset] [(.ref b1)]))
          refine ownVia (fun _ k => XS.iconst X55.here hx rfl (hb hby at_122) k) ?_
          show ownFin _ _ _ _ _ (T55.setTop (mkF m 123 #[.val (.int p1), .val (.int p2), .val (.int p3), .val (.long q1), .second, .val (.int nv), .val (.int qv), .val (.int (p2.toInt8.toInt32)), .val (.int (p3.toInt8.toInt32)), .val (.ref b1), .val (.ref b2), .val (.int (1 : Int32)), .unset] [(.int (0 : Int32)), (.ref b1)]))
          refine ownVia (fun _ k => XS.aload X55.here hx rfl (hb hby at_123) rfl rfl k) ?_
          show ownFin _ _ _ _ _ (T55.setTop (mkF m 125 #[.val (.int p1), .val (.int p2), .val (.int p3), .val (.long q1), .second, .val (.int nv), .val (.int qv), .val (.int (p2.toInt8.toInt32)), .val (.int (p3.toInt8.toInt32)), .val (.ref b1), .val (.ref b2), .val (.int (1 : Int32)), .unset] [(.ref b1), (.int (0 : Int32)), (.ref b1)]))
          refine ownVia (fun _ k => XS.iconst X55.here hx rfl (hb hby at_125) k) ?_
          show ownFin _ _ _ _ _ (T55.setTop (mkF m 126 #[.val (.int p1), .val (.int p2), .val (.int p3), .val (.long q1), .second, .val (.int nv), .val (.int qv), .val (.int (p2.toInt8.toInt32)), .val (.int (p3.toInt8.toInt32)), .val (.ref b1), .val (.ref b2), .val (.int (1 : Int32)), .unset] [(.int (0 : Int32)), (.ref b1), (.int (0 : Int32)), (.ref b1)]))
          refine ownBaload X55 hx hZ (rfl : T55.heap = T55.heap) A_b1 ⟨by decide, by decide⟩ (v := (.int (nar .byte (p2.toInt8.toInt32)))) rfl (hb hby at_126) ?_
          show ownFin _ _ _ _ _ (T55.setTop (mkF m 127 #[.val (.int p1), .val (.int p2), .val (.int p3), .val (.long q1), .second, .val (.int nv), .val (.int qv), .val (.int (p2.toInt8.toInt32)), .val (.int (p3.toInt8.toInt32)), .val (.ref b1), .val (.ref b2), .val (.int (1 : Int32)), .unset] [(.int (nar .byte (p2.toInt8.toInt32))), (.int (0 : Int32)), (.ref b1)]))
          refine ownVia (fun _ k => XS.iconst X55.here hx rfl (hb hby at_127) k) ?_
          show ownFin _ _ _ _ _ (T55.setTop (mkF m 128 #[.val (.int p1), .val (.int p2), .val (.int p3), .val (.long q1), .second, .val (.int nv), .val (.int qv), .val (.int (p2.toInt8.toInt32)), .val (.int (p3.toInt8.toInt32)), .val (.ref b1), .val (.ref b2), .val (.int (1 : Int32)), .unset] [(.int (-1 : Int32)), (.int (nar .byte (p2.toInt8.toInt32))), (.int (0 : Int32)), (.ref b1)]))
          refine ownVia (fun _ k => XS.ixor X55.here hx rfl (hb hby at_128) rfl k) ?_
          show ownFin _ _ _ _ _ (T55.setTop (mkF m 129 #[.val (.int p1), .val (.int p2), .val (.int p3), .val (.long q1), .second, .val (.int nv), .val (.int qv), .val (.int (p2.toInt8.toInt32)), .val (.int (p3.toInt8.toInt32)), .val (.ref b1), .val (.ref b2), .val (.int (1 : Int32)), .unset] [(.int ((nar .byte (p2.toInt8.toInt32)) ^^^ (-1 : Int32))), (.int (0 : Int32)), (.ref b1)]))
          refine ownVia (fun _ k => XS.i2b X55.here hx rfl (hb hby at_129) rfl k) ?_
          show ownFin _ _ _ _ _ (T55.setTop (mkF m 130 #[.val (.int p1), .val (.int p2), .val (.int p3), .val (.long q1), .second, .val (.int nv), .val (.int qv), .val (.int (p2.toInt8.toInt32)), .val (.int (p3.toInt8.toInt32)), .val (.ref b1), .val (.ref b2), .val (.int (1 : Int32)), .unset] [(.int (((nar .byte (p2.toInt8.toInt32)) ^^^ (-1 : Int32)).toInt8.toInt32)), (.int (0 : Int32)), (.ref b1)]))
          refine ownBastore X55 hx hZ (rfl : T55.heap = T55.heap) A_b1 ⟨by decide, by decide⟩ (0) (by decide) (Nat.le_of_ble_eq_true rfl) N55 ge_b1 (hb hby at_130) ?_
          intro T57 h57 L57 X57 e57 N57 W57 A_b1
          have E_b1 := E_b1.wr W57
          have E_b2 := E_b2.wr W57
          have A_b3 := A_b3.other W57 (Ne.symm ne_b1_b3)
          have E_b3 := E_b3.wr W57
          have A_b4 := A_b4.other W57 (Ne.symm ne_b1_b4)
          have E_b4 := E_b4.wr W57
          have F_b2_id := F_b2_id.other W57 (Or.inl (Ne.symm ne_b1_b2))
          have F_b2_acceptedMillis := F_b2_acceptedMillis.other W57 (Or.inl (Ne.symm ne_b1_b2))
          have F_b2_flags := F_b2_flags.other W57 (Or.inl (Ne.symm ne_b1_b2))
          have F_b2_quotaMarker := F_b2_quotaMarker.other W57 (Or.inl (Ne.symm ne_b1_b2))
          have A_c1 := A_c1.other W57 (Ne.symm ne_b1_c1)
          have E_c1 := E_c1.wr W57
          have A_c2 := A_c2.other W57 (Ne.symm ne_b1_c2)
          have Z0 := own_szW Z0 W57
          have O := O.wr W57 ge_b1
          have A_b1 : Arv Z h57 b1 k_b1 .byte (1 : Int32) [(.int (nar .byte (((nar .byte (p2.toInt8.toInt32)) ^^^ (-1 : Int32)).toInt8.toInt32)))] (.int (0 : Int32)) := A_b1
          show ownFin _ _ _ _ _ (T57.setTop (mkF m 131 #[.val (.int p1), .val (.int p2), .val (.int p3), .val (.long q1), .second, .val (.int nv), .val (.int qv), .val (.int (p2.toInt8.toInt32)), .val (.int (p3.toInt8.toInt32)), .val (.ref b1), .val (.ref b2), .val (.int (1 : Int32)), .unset] []))
          refine ownVia (fun _ k => XS.aload X57.here hx rfl (hb hby at_131) rfl rfl k) ?_
          show ownFin _ _ _ _ _ (T57.setTop (mkF m 133 #[.val (.int p1), .val (.int p2), .val (.int p3), .val (.long q1), .second, .val (.int nv), .val (.int qv), .val (.int (p2.toInt8.toInt32)), .val (.int (p3.toInt8.toInt32)), .val (.ref b1), .val (.ref b2), .val (.int (1 : Int32)), .unset] [(.ref b2)]))
          refine ownCallV X57 hx hZ hown (hw _ (List.mem_of_getElem? (i := 46) rfl)) (hw _ (List.mem_of_getElem? (i := 47) rfl)) (hw _ (List.mem_of_getElem? (i := 49) rfl)) (hw _ (List.mem_of_getElem? (i := 49) rfl)) (hw _ (List.mem_of_getElem? (i := 48) rfl)) (hw _ (List.mem_of_getElem? (i := 3) rfl)) (hw _ (List.mem_of_getElem? (i := 50) rfl)) (by decide) e57 E_b2 (own_not l Z a0 hw b2 h57 n0 c2 k_b1 (1 : Int32) ([(nar .byte (p2.toInt8.toInt32))] : List Int32) Z0 F_b2_quotaMarker F_b2_flags A_c2 (by show (1 : Int32).toInt = ((1 : Nat) : Int); decide)) (by rw [hml]; rfl) [] [] (lenOf own_pd4 rfl) rfl rfl 0 rfl (hb hby at_133) (by decide) (by decide) (by decide) (by decide) ?_
          intro v58 T58 L58 X58 hq58
          obtain ⟨rfl, N58q, eq58⟩ := hq58
          have N58 := Fr.app N57 N58q
          have e58 : T58.heap = h57 := eq58
          show ownFin _ _ _ _ _ (T58.setTop (mkF m 136 #[.val (.int p1), .val (.int p2), .val (.int p3), .val (.long q1), .second, .val (.int nv), .val (.int qv), .val (.int (p2.toInt8.toInt32)), .val (.int (p3.toInt8.toInt32)), .val (.ref b1), .val (.ref b2), .val (.int (1 : Int32)), .unset] [(.int (own_nf ([(nar .byte (p2.toInt8.toInt32))] : List Int32)))]))
          refine ownVia (fun _ k => XS.iload X58.here hx rfl (hb hby at_136) rfl k) ?_
          show ownFin _ _ _ _ _ (T58.setTop (mkF m 138 #[.val (.int p1), .val (.int p2), .val (.int p3), .val (.long q1), .second, .val (.int nv), .val (.int qv), .val (.int (p2.toInt8.toInt32)), .val (.int (p3.toInt8.toInt32)), .val (.ref b1), .val (.ref b2), .val (.int (1 : Int32)), .unset] [(.int (1 : Int32)), (.int (own_nf ([(nar .byte (p2.toInt8.toInt32))] : List Int32)))]))
          refine ownVia (fun _ k => XS.icmpNo X58.here hx rfl (hb hby at_138) rfl (teq (own_nf1 (bs := ([(nar .byte (p2.toInt8.toInt32))] : List Int32)) (by show 0 < 1; decide) ((own_b84 p2).mpr hc56))).2 k) ?_
          show ownFin _ _ _ _ _ (T58.setTop (mkF m 141 #[.val (.int p1), .val (.int p2), .val (.int p3), .val (.long q1), .second, .val (.int nv), .val (.int qv), .val (.int (p2.toInt8.toInt32)), .val (.int (p3.toInt8.toInt32)), .val (.ref b1), .val (.ref b2), .val (.int (1 : Int32)), .unset] []))
          refine ownVia (fun _ k => XS.iconst X58.here hx rfl (hb hby at_141) k) ?_
          show ownFin _ _ _ _ _ (T58.setTop (mkF m 142 #[.val (.int p1), .val (.int p2), .val (.int p3), .val (.long q1), .second, .val (.int nv), .val (.int qv), .val (.int (p2.toInt8.toInt32)), .val (.int (p3.toInt8.toInt32)), .val (.ref b1), .val (.ref b2), .val (.int (1 : Int32)), .unset] [(.int (1 : Int32))]))
          refine ownVia (fun _ k => XS.goto X58.here hx rfl (pc0 := 142) (pc' := 146) rfl (hb hby at_142) (by decide) (by decide) k) ?_
          show ownFin _ _ _ _ _ (T58.setTop (mkF m 146 #[.val (.int p1), .val (.int p2), .val (.int p3), .val (.long q1), .second, .val (.int nv), .val (.int qv), .val (.int (p2.toInt8.toInt32)), .val (.int (p3.toInt8.toInt32)), .val (.ref b1), .val (.ref b2), .val (.int (1 : Int32)), .unset] [(.int (1 : Int32))]))
          refine ownVia (fun _ k => XS.istore X58.here hx rfl (hb hby at_146) rfl (l' := #[.val (.int p1), .val (.int p2), .val (.int p3), .val (.long q1), .second, .val (.int nv), .val (.int qv), .val (.int (p2.toInt8.toInt32)), .val (.int (p3.toInt8.toInt32)), .val (.ref b1), .val (.ref b2), .val (.int (1 : Int32)), .val (.int (1 : Int32))]) rfl k) ?_
          show ownFin _ _ _ _ _ (T58.setTop (mkF m 148 #[.val (.int p1), .val (.int p2), .val (.int p3), .val (.long q1), .second, .val (.int nv), .val (.int qv), .val (.int (p2.toInt8.toInt32)), .val (.int (p3.toInt8.toInt32)), .val (.ref b1), .val (.ref b2), .val (.int (1 : Int32)), .val (.int (1 : Int32))] []))
          refine ownVia (fun _ k => XS.iload X58.here hx rfl (hb hby at_148) rfl k) ?_
          show ownFin _ _ _ _ _ (T58.setTop (mkF m 150 #[.val (.int p1), .val (.int p2), .val (.int p3), .val (.long q1), .second, .val (.int nv), .val (.int qv), .val (.int (p2.toInt8.toInt32)), .val (.int (p3.toInt8.toInt32)), .val (.ref b1), .val (.ref b2), .val (.int (1 : Int32)), .val (.int (1 : Int32))] [(.int qv)]))
          by_cases hc59 : qv = (0 : Int32)
          case pos =>
            have hc59I : qv.toInt = 0 := (own_eqi rfl (by decide)).mp hc59
            refine ownVia (fun _ k => XS.ifYes X58.here hx rfl (pc0 := 150) (pc' := 176) rfl (hb hby at_150) rfl ((if0 _ _).trans (teq hc59).1) (by decide) (by decide) k) ?_
            show ownFin _ _ _ _ _ (T58.setTop (mkF m 176 #[.val (.int p1), .val (.int p2), .val (.int p3), .val (.long q1), .second, .val (.int nv), .val (.int qv), .val (.int (p2.toInt8.toInt32)), .val (.int (p3.toInt8.toInt32)), .val (.ref b1), .val (.ref b2), .val (.int (1 : Int32)), .val (.int (1 : Int32))] []))
            refine ownVia (fun _ k => XS.iload X58.here hx rfl (hb hby at_176) rfl k) ?_
            show ownFin _ _ _ _ _ (T58.setTop (mkF m 178 #[.val (.int p1), .val (.int p2), .val (.int p3), .val (.long q1), .second, .val (.int nv), .val (.int qv), .val (.int (p2.toInt8.toInt32)), .val (.int (p3.toInt8.toInt32)), .val (.ref b1), .val (.ref b2), .val (.int (1 : Int32)), .val (.int (1 : Int32))] [(.int (1 : Int32))]))
            refine ownRetZ X58 hx hlk hret (hb hby at_178) (by decide) (by decide) (Or.inr rfl) ?_
            show (Q_own_law Z p1 p2 p3 q1 h0 n0 sN sE kN) (some (.int (1 : Int32))) T58.heap _
            rw [e58]
            exact ⟨rfl, N58⟩
          case neg =>
            have hc59I : ¬ qv.toInt = 0 := fun q => hc59 ((own_eqi rfl (by decide)).mpr q)
            refine ownVia (fun _ k => XS.ifNo X58.here hx rfl (hb hby at_150) rfl ((if0 _ _).trans (feq hc59).1) k) ?_
            show ownFin _ _ _ _ _ (T58.setTop (mkF m 153 #[.val (.int p1), .val (.int p2), .val (.int p3), .val (.long q1), .second, .val (.int nv), .val (.int qv), .val (.int (p2.toInt8.toInt32)), .val (.int (p3.toInt8.toInt32)), .val (.ref b1), .val (.ref b2), .val (.int (1 : Int32)), .val (.int (1 : Int32))] []))
            refine ownVia (fun _ k => XS.iload X58.here hx rfl (hb hby at_153) rfl k) ?_
            show ownFin _ _ _ _ _ (T58.setTop (mkF m 155 #[.val (.int p1), .val (.int p2), .val (.int p3), .val (.long q1), .second, .val (.int nv), .val (.int qv), .val (.int (p2.toInt8.toInt32)), .val (.int (p3.toInt8.toInt32)), .val (.ref b1), .val (.ref b2), .val (.int (1 : Int32)), .val (.int (1 : Int32))] [(.int (1 : Int32))]))
            refine ownVia (fun _ k => XS.ifNo X58.here hx rfl (hb hby at_155) rfl ((if0 _ _).trans (feq (by decide)).1) k) ?_
            show ownFin _ _ _ _ _ (T58.setTop (mkF m 158 #[.val (.int p1), .val (.int p2), .val (.int p3), .val (.long q1), .second, .val (.int nv), .val (.int qv), .val (.int (p2.toInt8.toInt32)), .val (.int (p3.toInt8.toInt32)), .val (.ref b1), .val (.ref b2), .val (.int (1 : Int32)), .val (.int (1 : Int32))] []))
            refine ownVia (fun _ k => XS.aload X58.here hx rfl (hb hby at_158) rfl rfl k) ?_
            show ownFin _ _ _ _ _ (T58.setTop (mkF m 160 #[.val (.int p1), .val (.int p2), .val (.int p3), .val (.long q1), .second, .val (.int nv), .val (.int qv), .val (.int (p2.toInt8.toInt32)), .val (.int (p3.toInt8.toInt32)), .val (.ref b1), .val (.ref b2), .val (.int (1 : Int32)), .val (.int (1 : Int32))] [(.ref b2)]))
            refine ownCallV X58 hx hZ hown (hw _ (List.mem_of_getElem? (i := 51) rfl)) (hw _ (List.mem_of_getElem? (i := 52) rfl)) (hw _ (List.mem_of_getElem? (i := 54) rfl)) (hw _ (List.mem_of_getElem? (i := 54) rfl)) (hw _ (List.mem_of_getElem? (i := 53) rfl)) (hw _ (List.mem_of_getElem? (i := 3) rfl)) (hw _ (List.mem_of_getElem? (i := 55) rfl)) (by decide) e58 E_b2 (own_qm l Z a0 hw b2 h57 n0 c1 sN sE k_b3 kN q1 (0 : Int32) (0 : Int32) [] [] 0 0 Z0 F_b2_id F_b2_acceptedMillis A_c1 E_c1 (by decide) (by decide) (S_N.ext O.2) (S_E.ext O.2) (A_sN.ext O.2) (E_sN.ext O.2) (by decide) (by decide)) (by rw [hml]; rfl) [] [] (lenOf own_pd5 rfl) rfl rfl 0 rfl (hb hby at_160) (by decide) (by decide) (by decide) (by decide) ?_
            intro v60 T60 L60 X60 hq60
            obtain ⟨d1, rfl, N60q, K60, sq60, E_d1, F_d1⟩ := hq60
            have Z0 := Nat.le_trans Z0 K60.1
            have O := O.keep K60 all0
            have N60 := Fr.app N58 N60q
            show ownFin _ _ _ _ _ (T60.setTop (mkF m 163 #[.val (.int p1), .val (.int p2), .val (.int p3), .val (.long q1), .second, .val (.int nv), .val (.int qv), .val (.int (p2.toInt8.toInt32)), .val (.int (p3.toInt8.toInt32)), .val (.ref b1), .val (.ref b2), .val (.int (1 : Int32)), .val (.int (1 : Int32))] [(.ref d1)]))
            refine ownCallV X60 hx hZ hown (hw _ (List.mem_of_getElem? (i := 46) rfl)) (hw _ (List.mem_of_getElem? (i := 47) rfl)) (hw _ (List.mem_of_getElem? (i := 49) rfl)) (hw _ (List.mem_of_getElem? (i := 49) rfl)) (hw _ (List.mem_of_getElem? (i := 48) rfl)) (hw _ (List.mem_of_getElem? (i := 3) rfl)) (hw _ (List.mem_of_getElem? (i := 50) rfl)) (by decide) (rfl : T60.heap = T60.heap) E_d1 (own_notq l Z a0 hw d1 T60.heap n0 Z0 F_d1) (by rw [hml]; rfl) [] [] (lenOf own_pd4 rfl) rfl rfl 0 rfl (hb hby at_163) (by decide) (by decide) (by decide) (by decide) ?_
            intro v61 T61 L61 X61 hq61
            obtain ⟨rfl, N61q, eq61⟩ := hq61
            have N61 := Fr.app N60 N61q
            have e61 : T61.heap = T60.heap := eq61
            show ownFin _ _ _ _ _ (T61.setTop (mkF m 166 #[.val (.int p1), .val (.int p2), .val (.int p3), .val (.long q1), .second, .val (.int nv), .val (.int qv), .val (.int (p2.toInt8.toInt32)), .val (.int (p3.toInt8.toInt32)), .val (.ref b1), .val (.ref b2), .val (.int (1 : Int32)), .val (.int (1 : Int32))] [(.int (0 : Int32))]))
            refine ownVia (fun _ k => XS.ifNo X61.here hx rfl (hb hby at_166) rfl ((if0 _ _).trans (teq rfl).2) k) ?_
            show ownFin _ _ _ _ _ (T61.setTop (mkF m 169 #[.val (.int p1), .val (.int p2), .val (.int p3), .val (.long q1), .second, .val (.int nv), .val (.int qv), .val (.int (p2.toInt8.toInt32)), .val (.int (p3.toInt8.toInt32)), .val (.ref b1), .val (.ref b2), .val (.int (1 : Int32)), .val (.int (1 : Int32))] []))
            refine ownVia (fun _ k => XS.iconst X61.here hx rfl (hb hby at_169) k) ?_
            show ownFin _ _ _ _ _ (T61.setTop (mkF m 170 #[.val (.int p1), .val (.int p2), .val (.int p3), .val (.long q1), .second, .val (.int nv), .val (.int qv), .val (.int (p2.toInt8.toInt32)), .val (.int (p3.toInt8.toInt32)), .val (.ref b1), .val (.ref b2), .val (.int (1 : Int32)), .val (.int (1 : Int32))] [(.int (1 : Int32))]))
            refine ownVia (fun _ k => XS.goto X61.here hx rfl (pc0 := 170) (pc' := 174) rfl (hb hby at_170) (by decide) (by decide) k) ?_
            show ownFin _ _ _ _ _ (T61.setTop (mkF m 174 #[.val (.int p1), .val (.int p2), .val (.int p3), .val (.long q1), .second, .val (.int nv), .val (.int qv), .val (.int (p2.toInt8.toInt32)), .val (.int (p3.toInt8.toInt32)), .val (.ref b1), .val (.ref b2), .val (.int (1 : Int32)), .val (.int (1 : Int32))] [(.int (1 : Int32))]))
            refine ownVia (fun _ k => XS.istore X61.here hx rfl (hb hby at_174) rfl (l' := #[.val (.int p1), .val (.int p2), .val (.int p3), .val (.long q1), .second, .val (.int nv), .val (.int qv), .val (.int (p2.toInt8.toInt32)), .val (.int (p3.toInt8.toInt32)), .val (.ref b1), .val (.ref b2), .val (.int (1 : Int32)), .val (.int (1 : Int32))]) rfl k) ?_
            show ownFin _ _ _ _ _ (T61.setTop (mkF m 176 #[.val (.int p1), .val (.int p2), .val (.int p3), .val (.long q1), .second, .val (.int nv), .val (.int qv), .val (.int (p2.toInt8.toInt32)), .val (.int (p3.toInt8.toInt32)), .val (.ref b1), .val (.ref b2), .val (.int (1 : Int32)), .val (.int (1 : Int32))] []))
            refine ownVia (fun _ k => XS.iload X61.here hx rfl (hb hby at_176) rfl k) ?_
            show ownFin _ _ _ _ _ (T61.setTop (mkF m 178 #[.val (.int p1), .val (.int p2), .val (.int p3), .val (.long q1), .second, .val (.int nv), .val (.int qv), .val (.int (p2.toInt8.toInt32)), .val (.int (p3.toInt8.toInt32)), .val (.ref b1), .val (.ref b2), .val (.int (1 : Int32)), .val (.int (1 : Int32))] [(.int (1 : Int32))]))
            refine ownRetZ X61 hx hlk hret (hb hby at_178) (by decide) (by decide) (Or.inr rfl) ?_
            show (Q_own_law Z p1 p2 p3 q1 h0 n0 sN sE kN) (some (.int (1 : Int32))) T61.heap _
            rw [e61]
            exact ⟨rfl, N61⟩
        case neg =>
          have hc56I : ¬ (p2 &&& (255 : Int32)).toInt = 84 := fun q => hc56 ((own_eqi rfl (by decide)).mpr q)
          refine ownVia (fun _ k => XS.icmpYes X55.here hx rfl (pc0 := 105) (pc' := 112) rfl (hb hby at_105) rfl (feq hc56).2 (by decide) (by decide) k) ?_
          show ownFin _ _ _ _ _ (T55.setTop (mkF m 112 #[.val (.int p1), .val (.int p2), .val (.int p3), .val (.long q1), .second, .val (.int nv), .val (.int qv), .val (.int (p2.toInt8.toInt32)), .val (.int (p3.toInt8.toInt32)), .val (.ref b1), .val (.ref b2), .unset, .unset] []))
          refine ownVia (fun _ k => XS.iconst X55.here hx rfl (hb hby at_112) k) ?_
          show ownFin _ _ _ _ _ (T55.setTop (mkF m 113 #[.val (.int p1), .val (.int p2), .val (.int p3), .val (.long q1), .second, .val (.int nv), .val (.int qv), .val (.int (p2.toInt8.toInt32)), .val (.int (p3.toInt8.toInt32)), .val (.ref b1), .val (.ref b2), .unset, .unset] [(.int (0 : Int32))]))
          refine ownVia (fun _ k => XS.istore X55.here hx rfl (hb hby at_113) rfl (l' := #[.val (.int p1), .val (.int p2), .val (.int p3), .val (.long q1), .second, .val (.int nv), .val (.int qv), .val (.int (p2.toInt8.toInt32)), .val (.int (p3.toInt8.toInt32)), .val (.ref b1), .val (.ref b2), .val (.int (0 : Int32)), .unset]) rfl k) ?_
          show ownFin _ _ _ _ _ (T55.setTop (mkF m 115 #[.val (.int p1), .val (.int p2), .val (.int p3), .val (.long q1), .second, .val (.int nv), .val (.int qv), .val (.int (p2.toInt8.toInt32)), .val (.int (p3.toInt8.toInt32)), .val (.ref b1), .val (.ref b2), .val (.int (0 : Int32)), .unset] []))
          refine ownVia (fun _ k => XS.iload X55.here hx rfl (hb hby at_115) rfl k) ?_
          show ownFin _ _ _ _ _ (T55.setTop (mkF m 117 #[.val (.int p1), .val (.int p2), .val (.int p3), .val (.long q1), .second, .val (.int nv), .val (.int qv), .val (.int (p2.toInt8.toInt32)), .val (.int (p3.toInt8.toInt32)), .val (.ref b1), .val (.ref b2), .val (.int (0 : Int32)), .unset] [(.int nv)]))
          refine ownVia (fun _ k => XS.ifNo X55.here hx rfl (hb hby at_117) rfl ((if0 _ _).trans (tlt ((own_lti (by decide : (0 : Int32).toInt = 0) (by omega : nv.toInt = 1)).mpr (by decide))).2.2.2) k) ?_
          show ownFin _ _ _ _ _ (T55.setTop (mkF m 120 #[.val (.int p1), .val (.int p2), .val (.int p3), .val (.long q1), .second, .val (.int nv), .val (.int qv), .val (.int (p2.toInt8.toInt32)), .val (.int (p3.toInt8.toInt32)), .val (.ref b1), .val (.ref b2), .val (.int (0 : Int32)), .unset] []))
          refine ownVia (fun _ k => XS.aload X55.here hx rfl (hb hby at_120) rfl rfl k) ?_
          show ownFin _ _ _ _ _ (T55.setTop (mkF m 122 #[.val (.int p1), .val (.int p2), .val (.int p3), .val (.long q1), .second, .val (.int nv), .val (.int qv), .val (.int (p2.toInt8.toInt32)), .val (.int (p3.toInt8.toInt32)), .val (.ref b1), .val (.ref b2), .val (.int (0 : Int32)), .unset] [(.ref b1)]))
          refine ownVia (fun _ k => XS.iconst X55.here hx rfl (hb hby at_122) k) ?_
          show ownFin _ _ _ _ _ (T55.setTop (mkF m 123 #[.val (.int p1), .val (.int p2), .val (.int p3), .val (.long q1), .second, .val (.int nv), .val (.int qv), .val (.int (p2.toInt8.toInt32)), .val (.int (p3.toInt8.toInt32)), .val (.ref b1), .val (.ref b2), .val (.int (0 : Int32)), .unset] [(.int (0 : Int32)), (.ref b1)]))
          refine ownVia (fun _ k => XS.aload X55.here hx rfl (hb hby at_123) rfl rfl k) ?_
          show ownFin _ _ _ _ _ (T55.setTop (mkF m 125 #[.val (.int p1), .val (.int p2), .val (.int p3), .val (.long q1), .second, .val (.int nv), .val (.int qv), .val (.int (p2.toInt8.toInt32)), .val (.int (p3.toInt8.toInt32)), .val (.ref b1), .val (.ref b2), .val (.int (0 : Int32)), .unset] [(.ref b1), (.int (0 : Int32)), (.ref b1)]))
          refine ownVia (fun _ k => XS.iconst X55.here hx rfl (hb hby at_125) k) ?_
          show ownFin _ _ _ _ _ (T55.setTop (mkF m 126 #[.val (.int p1), .val (.int p2), .val (.int p3), .val (.long q1), .second, .val (.int nv), .val (.int qv), .val (.int (p2.toInt8.toInt32)), .val (.int (p3.toInt8.toInt32)), .val (.ref b1), .val (.ref b2), .val (.int (0 : Int32)), .unset] [(.int (0 : Int32)), (.ref b1), (.int (0 : Int32)), (.ref b1)]))
          refine ownBaload X55 hx hZ (rfl : T55.heap = T55.heap) A_b1 ⟨by decide, by decide⟩ (v := (.int (nar .byte (p2.toInt8.toInt32)))) rfl (hb hby at_126) ?_
          show ownFin _ _ _ _ _ (T55.setTop (mkF m 127 #[.val (.int p1), .val (.int p2), .val (.int p3), .val (.long q1), .second, .val (.int nv), .val (.int qv), .val (.int (p2.toInt8.toInt32)), .val (.int (p3.toInt8.toInt32)), .val (.ref b1), .val (.ref b2), .val (.int (0 : Int32)), .unset] [(.int (nar .byte (p2.toInt8.toInt32))), (.int (0 : Int32)), (.ref b1)]))
          refine ownVia (fun _ k => XS.iconst X55.here hx rfl (hb hby at_127) k) ?_
          show ownFin _ _ _ _ _ (T55.setTop (mkF m 128 #[.val (.int p1), .val (.int p2), .val (.int p3), .val (.long q1), .second, .val (.int nv), .val (.int qv), .val (.int (p2.toInt8.toInt32)), .val (.int (p3.toInt8.toInt32)), .val (.ref b1), .val (.ref b2), .val (.int (0 : Int32)), .unset] [(.int (-1 : Int32)), (.int (nar .byte (p2.toInt8.toInt32))), (.int (0 : Int32)), (.ref b1)]))
          refine ownVia (fun _ k => XS.ixor X55.here hx rfl (hb hby at_128) rfl k) ?_
          show ownFin _ _ _ _ _ (T55.setTop (mkF m 129 #[.val (.int p1), .val (.int p2), .val (.int p3), .val (.long q1), .second, .val (.int nv), .val (.int qv), .val (.int (p2.toInt8.toInt32)), .val (.int (p3.toInt8.toInt32)), .val (.ref b1), .val (.ref b2), .val (.int (0 : Int32)), .unset] [(.int ((nar .byte (p2.toInt8.toInt32)) ^^^ (-1 : Int32))), (.int (0 : Int32)), (.ref b1)]))
          refine ownVia (fun _ k => XS.i2b X55.here hx rfl (hb hby at_129) rfl k) ?_
          show ownFin _ _ _ _ _ (T55.setTop (mkF m 130 #[.val (.int p1), .val (.int p2), .val (.int p3), .val (.long q1), .second, .val (.int nv), .val (.int qv), .val (.int (p2.toInt8.toInt32)), .val (.int (p3.toInt8.toInt32)), .val (.ref b1), .val (.ref b2), .val (.int (0 : Int32)), .unset] [(.int (((nar .byte (p2.toInt8.toInt32)) ^^^ (-1 : Int32)).toInt8.toInt32)), (.int (0 : Int32)), (.ref b1)]))
          refine ownBastore X55 hx hZ (rfl : T55.heap = T55.heap) A_b1 ⟨by decide, by decide⟩ (0) (by decide) (Nat.le_of_ble_eq_true rfl) N55 ge_b1 (hb hby at_130) ?_
          intro T62 h62 L62 X62 e62 N62 W62 A_b1
          have E_b1 := E_b1.wr W62
          have E_b2 := E_b2.wr W62
          have A_b3 := A_b3.other W62 (Ne.symm ne_b1_b3)
          have E_b3 := E_b3.wr W62
          have A_b4 := A_b4.other W62 (Ne.symm ne_b1_b4)
          have E_b4 := E_b4.wr W62
          have F_b2_id := F_b2_id.other W62 (Or.inl (Ne.symm ne_b1_b2))
          have F_b2_acceptedMillis := F_b2_acceptedMillis.other W62 (Or.inl (Ne.symm ne_b1_b2))
          have F_b2_flags := F_b2_flags.other W62 (Or.inl (Ne.symm ne_b1_b2))
          have F_b2_quotaMarker := F_b2_quotaMarker.other W62 (Or.inl (Ne.symm ne_b1_b2))
          have A_c1 := A_c1.other W62 (Ne.symm ne_b1_c1)
          have E_c1 := E_c1.wr W62
          have A_c2 := A_c2.other W62 (Ne.symm ne_b1_c2)
          have Z0 := own_szW Z0 W62
          have O := O.wr W62 ge_b1
          have A_b1 : Arv Z h62 b1 k_b1 .byte (1 : Int32) [(.int (nar .byte (((nar .byte (p2.toInt8.toInt32)) ^^^ (-1 : Int32)).toInt8.toInt32)))] (.int (0 : Int32)) := A_b1
          show ownFin _ _ _ _ _ (T62.setTop (mkF m 131 #[.val (.int p1), .val (.int p2), .val (.int p3), .val (.long q1), .second, .val (.int nv), .val (.int qv), .val (.int (p2.toInt8.toInt32)), .val (.int (p3.toInt8.toInt32)), .val (.ref b1), .val (.ref b2), .val (.int (0 : Int32)), .unset] []))
          refine ownVia (fun _ k => XS.aload X62.here hx rfl (hb hby at_131) rfl rfl k) ?_
          show ownFin _ _ _ _ _ (T62.setTop (mkF m 133 #[.val (.int p1), .val (.int p2), .val (.int p3), .val (.long q1), .second, .val (.int nv), .val (.int qv), .val (.int (p2.toInt8.toInt32)), .val (.int (p3.toInt8.toInt32)), .val (.ref b1), .val (.ref b2), .val (.int (0 : Int32)), .unset] [(.ref b2)]))
          refine ownCallV X62 hx hZ hown (hw _ (List.mem_of_getElem? (i := 46) rfl)) (hw _ (List.mem_of_getElem? (i := 47) rfl)) (hw _ (List.mem_of_getElem? (i := 49) rfl)) (hw _ (List.mem_of_getElem? (i := 49) rfl)) (hw _ (List.mem_of_getElem? (i := 48) rfl)) (hw _ (List.mem_of_getElem? (i := 3) rfl)) (hw _ (List.mem_of_getElem? (i := 50) rfl)) (by decide) e62 E_b2 (own_not l Z a0 hw b2 h62 n0 c2 k_b1 (1 : Int32) ([(nar .byte (p2.toInt8.toInt32))] : List Int32) Z0 F_b2_quotaMarker F_b2_flags A_c2 (by show (1 : Int32).toInt = ((1 : Nat) : Int); decide)) (by rw [hml]; rfl) [] [] (lenOf own_pd4 rfl) rfl rfl 0 rfl (hb hby at_133) (by decide) (by decide) (by decide) (by decide) ?_
          intro v63 T63 L63 X63 hq63
          obtain ⟨rfl, N63q, eq63⟩ := hq63
          have N63 := Fr.app N62 N63q
          have e63 : T63.heap = h62 := eq63
          show ownFin _ _ _ _ _ (T63.setTop (mkF m 136 #[.val (.int p1), .val (.int p2), .val (.int p3), .val (.long q1), .second, .val (.int nv), .val (.int qv), .val (.int (p2.toInt8.toInt32)), .val (.int (p3.toInt8.toInt32)), .val (.ref b1), .val (.ref b2), .val (.int (0 : Int32)), .unset] [(.int (own_nf ([(nar .byte (p2.toInt8.toInt32))] : List Int32)))]))
          refine ownVia (fun _ k => XS.iload X63.here hx rfl (hb hby at_136) rfl k) ?_
          show ownFin _ _ _ _ _ (T63.setTop (mkF m 138 #[.val (.int p1), .val (.int p2), .val (.int p3), .val (.long q1), .second, .val (.int nv), .val (.int qv), .val (.int (p2.toInt8.toInt32)), .val (.int (p3.toInt8.toInt32)), .val (.ref b1), .val (.ref b2), .val (.int (0 : Int32)), .unset] [(.int (0 : Int32)), (.int (own_nf ([(nar .byte (p2.toInt8.toInt32))] : List Int32)))]))
          refine ownVia (fun _ k => XS.icmpNo X63.here hx rfl (hb hby at_138) rfl (teq (own_nf0 (bs := ([(nar .byte (p2.toInt8.toInt32))] : List Int32)) (fun z => hc56 ((own_b84 p2).mp z.2)))).2 k) ?_
          show ownFin _ _ _ _ _ (T63.setTop (mkF m 141 #[.val (.int p1), .val (.int p2), .val (.int p3), .val (.long q1), .second, .val (.int nv), .val (.int qv), .val (.int (p2.toInt8.toInt32)), .val (.int (p3.toInt8.toInt32)), .val (.ref b1), .val (.ref b2), .val (.int (0 : Int32)), .unset] []))
          refine ownVia (fun _ k => XS.iconst X63.here hx rfl (hb hby at_141) k) ?_
          show ownFin _ _ _ _ _ (T63.setTop (mkF m 142 #[.val (.int p1), .val (.int p2), .val (.int p3), .val (.long q1), .second, .val (.int nv), .val (.int qv), .val (.int (p2.toInt8.toInt32)), .val (.int (p3.toInt8.toInt32)), .val (.ref b1), .val (.ref b2), .val (.int (0 : Int32)), .unset] [(.int (1 : Int32))]))
          refine ownVia (fun _ k => XS.goto X63.here hx rfl (pc0 := 142) (pc' := 146) rfl (hb hby at_142) (by decide) (by decide) k) ?_
          show ownFin _ _ _ _ _ (T63.setTop (mkF m 146 #[.val (.int p1), .val (.int p2), .val (.int p3), .val (.long q1), .second, .val (.int nv), .val (.int qv), .val (.int (p2.toInt8.toInt32)), .val (.int (p3.toInt8.toInt32)), .val (.ref b1), .val (.ref b2), .val (.int (0 : Int32)), .unset] [(.int (1 : Int32))]))
          refine ownVia (fun _ k => XS.istore X63.here hx rfl (hb hby at_146) rfl (l' := #[.val (.int p1), .val (.int p2), .val (.int p3), .val (.long q1), .second, .val (.int nv), .val (.int qv), .val (.int (p2.toInt8.toInt32)), .val (.int (p3.toInt8.toInt32)), .val (.ref b1), .val (.ref b2), .val (.int (0 : Int32)), .val (.int (1 : Int32))]) rfl k) ?_
          show ownFin _ _ _ _ _ (T63.setTop (mkF m 148 #[.val (.int p1), .val (.int p2), .val (.int p3), .val (.long q1), .second, .val (.int nv), .val (.int qv), .val (.int (p2.toInt8.toInt32)), .val (.int (p3.toInt8.toInt32)), .val (.ref b1), .val (.ref b2), .val (.int (0 : Int32)), .val (.int (1 : Int32))] []))
          refine ownVia (fun _ k => XS.iload X63.here hx rfl (hb hby at_148) rfl k) ?_
          show ownFin _ _ _ _ _ (T63.setTop (mkF m 150 #[.val (.int p1), .val (.int p2), .val (.int p3), .val (.long q1), .second, .val (.int nv), .val (.int qv), .val (.int (p2.toInt8.toInt32)), .val (.int (p3.toInt8.toInt32)), .val (.ref b1), .val (.ref b2), .val (.int (0 : Int32)), .val (.int (1 : Int32))] [(.int qv)]))
          by_cases hc64 : qv = (0 : Int32)
          case pos =>
            have hc64I : qv.toInt = 0 := (own_eqi rfl (by decide)).mp hc64
            refine ownVia (fun _ k => XS.ifYes X63.here hx rfl (pc0 := 150) (pc' := 176) rfl (hb hby at_150) rfl ((if0 _ _).trans (teq hc64).1) (by decide) (by decide) k) ?_
            show ownFin _ _ _ _ _ (T63.setTop (mkF m 176 #[.val (.int p1), .val (.int p2), .val (.int p3), .val (.long q1), .second, .val (.int nv), .val (.int qv), .val (.int (p2.toInt8.toInt32)), .val (.int (p3.toInt8.toInt32)), .val (.ref b1), .val (.ref b2), .val (.int (0 : Int32)), .val (.int (1 : Int32))] []))
            refine ownVia (fun _ k => XS.iload X63.here hx rfl (hb hby at_176) rfl k) ?_
            show ownFin _ _ _ _ _ (T63.setTop (mkF m 178 #[.val (.int p1), .val (.int p2), .val (.int p3), .val (.long q1), .second, .val (.int nv), .val (.int qv), .val (.int (p2.toInt8.toInt32)), .val (.int (p3.toInt8.toInt32)), .val (.ref b1), .val (.ref b2), .val (.int (0 : Int32)), .val (.int (1 : Int32))] [(.int (1 : Int32))]))
            refine ownRetZ X63 hx hlk hret (hb hby at_178) (by decide) (by decide) (Or.inr rfl) ?_
            show (Q_own_law Z p1 p2 p3 q1 h0 n0 sN sE kN) (some (.int (1 : Int32))) T63.heap _
            rw [e63]
            exact ⟨rfl, N63⟩
          case neg =>
            have hc64I : ¬ qv.toInt = 0 := fun q => hc64 ((own_eqi rfl (by decide)).mpr q)
            refine ownVia (fun _ k => XS.ifNo X63.here hx rfl (hb hby at_150) rfl ((if0 _ _).trans (feq hc64).1) k) ?_
            show ownFin _ _ _ _ _ (T63.setTop (mkF m 153 #[.val (.int p1), .val (.int p2), .val (.int p3), .val (.long q1), .second, .val (.int nv), .val (.int qv), .val (.int (p2.toInt8.toInt32)), .val (.int (p3.toInt8.toInt32)), .val (.ref b1), .val (.ref b2), .val (.int (0 : Int32)), .val (.int (1 : Int32))] []))
            refine ownVia (fun _ k => XS.iload X63.here hx rfl (hb hby at_153) rfl k) ?_
            show ownFin _ _ _ _ _ (T63.setTop (mkF m 155 #[.val (.int p1), .val (.int p2), .val (.int p3), .val (.long q1), .second, .val (.int nv), .val (.int qv), .val (.int (p2.toInt8.toInt32)), .val (.int (p3.toInt8.toInt32)), .val (.ref b1), .val (.ref b2), .val (.int (0 : Int32)), .val (.int (1 : Int32))] [(.int (1 : Int32))]))
            refine ownVia (fun _ k => XS.ifNo X63.here hx rfl (hb hby at_155) rfl ((if0 _ _).trans (feq (by decide)).1) k) ?_
            show ownFin _ _ _ _ _ (T63.setTop (mkF m 158 #[.val (.int p1), .val (.int p2), .val (.int p3), .val (.long q1), .second, .val (.int nv), .val (.int qv), .val (.int (p2.toInt8.toInt32)), .val (.int (p3.toInt8.toInt32)), .val (.ref b1), .val (.ref b2), .val (.int (0 : Int32)), .val (.int (1 : Int32))] []))
            refine ownVia (fun _ k => XS.aload X63.here hx rfl (hb hby at_158) rfl rfl k) ?_
            show ownFin _ _ _ _ _ (T63.setTop (mkF m 160 #[.val (.int p1), .val (.int p2), .val (.int p3), .val (.long q1), .second, .val (.int nv), .val (.int qv), .val (.int (p2.toInt8.toInt32)), .val (.int (p3.toInt8.toInt32)), .val (.ref b1), .val (.ref b2), .val (.int (0 : Int32)), .val (.int (1 : Int32))] [(.ref b2)]))
            refine ownCallV X63 hx hZ hown (hw _ (List.mem_of_getElem? (i := 51) rfl)) (hw _ (List.mem_of_getElem? (i := 52) rfl)) (hw _ (List.mem_of_getElem? (i := 54) rfl)) (hw _ (List.mem_of_getElem? (i := 54) rfl)) (hw _ (List.mem_of_getElem? (i := 53) rfl)) (hw _ (List.mem_of_getElem? (i := 3) rfl)) (hw _ (List.mem_of_getElem? (i := 55) rfl)) (by decide) e63 E_b2 (own_qm l Z a0 hw b2 h62 n0 c1 sN sE k_b3 kN q1 (0 : Int32) (0 : Int32) [] [] 0 0 Z0 F_b2_id F_b2_acceptedMillis A_c1 E_c1 (by decide) (by decide) (S_N.ext O.2) (S_E.ext O.2) (A_sN.ext O.2) (E_sN.ext O.2) (by decide) (by decide)) (by rw [hml]; rfl) [] [] (lenOf own_pd5 rfl) rfl rfl 0 rfl (hb hby at_160) (by decide) (by decide) (by decide) (by decide) ?_
            intro v65 T65 L65 X65 hq65
            obtain ⟨d1, rfl, N65q, K65, sq65, E_d1, F_d1⟩ := hq65
            have Z0 := Nat.le_trans Z0 K65.1
            have O := O.keep K65 all0
            have N65 := Fr.app N63 N65q
            show ownFin _ _ _ _ _ (T65.setTop (mkF m 163 #[.val (.int p1), .val (.int p2), .val (.int p3), .val (.long q1), .second, .val (.int nv), .val (.int qv), .val (.int (p2.toInt8.toInt32)), .val (.int (p3.toInt8.toInt32)), .val (.ref b1), .val (.ref b2), .val (.int (0 : Int32)), .val (.int (1 : Int32))] [(.ref d1)]))
            refine ownCallV X65 hx hZ hown (hw _ (List.mem_of_getElem? (i := 46) rfl)) (hw _ (List.mem_of_getElem? (i := 47) rfl)) (hw _ (List.mem_of_getElem? (i := 49) rfl)) (hw _ (List.mem_of_getElem? (i := 49) rfl)) (hw _ (List.mem_of_getElem? (i := 48) rfl)) (hw _ (List.mem_of_getElem? (i := 3) rfl)) (hw _ (List.mem_of_getElem? (i := 50) rfl)) (by decide) (rfl : T65.heap = T65.heap) E_d1 (own_notq l Z a0 hw d1 T65.heap n0 Z0 F_d1) (by rw [hml]; rfl) [] [] (lenOf own_pd4 rfl) rfl rfl 0 rfl (hb hby at_163) (by decide) (by decide) (by decide) (by decide) ?_
            intro v66 T66 L66 X66 hq66
            obtain ⟨rfl, N66q, eq66⟩ := hq66
            have N66 := Fr.app N65 N66q
            have e66 : T66.heap = T65.heap := eq66
            show ownFin _ _ _ _ _ (T66.setTop (mkF m 166 #[.val (.int p1), .val (.int p2), .val (.int p3), .val (.long q1), .second, .val (.int nv), .val (.int qv), .val (.int (p2.toInt8.toInt32)), .val (.int (p3.toInt8.toInt32)), .val (.ref b1), .val (.ref b2), .val (.int (0 : Int32)), .val (.int (1 : Int32))] [(.int (0 : Int32))]))
            refine ownVia (fun _ k => XS.ifNo X66.here hx rfl (hb hby at_166) rfl ((if0 _ _).trans (teq rfl).2) k) ?_
            show ownFin _ _ _ _ _ (T66.setTop (mkF m 169 #[.val (.int p1), .val (.int p2), .val (.int p3), .val (.long q1), .second, .val (.int nv), .val (.int qv), .val (.int (p2.toInt8.toInt32)), .val (.int (p3.toInt8.toInt32)), .val (.ref b1), .val (.ref b2), .val (.int (0 : Int32)), .val (.int (1 : Int32))] []))
            refine ownVia (fun _ k => XS.iconst X66.here hx rfl (hb hby at_169) k) ?_
            show ownFin _ _ _ _ _ (T66.setTop (mkF m 170 #[.val (.int p1), .val (.int p2), .val (.int p3), .val (.long q1), .second, .val (.int nv), .val (.int qv), .val (.int (p2.toInt8.toInt32)), .val (.int (p3.toInt8.toInt32)), .val (.ref b1), .val (.ref b2), .val (.int (0 : Int32)), .val (.int (1 : Int32))] [(.int (1 : Int32))]))
            refine ownVia (fun _ k => XS.goto X66.here hx rfl (pc0 := 170) (pc' := 174) rfl (hb hby at_170) (by decide) (by decide) k) ?_
            show ownFin _ _ _ _ _ (T66.setTop (mkF m 174 #[.val (.int p1), .val (.int p2), .val (.int p3), .val (.long q1), .second, .val (.int nv), .val (.int qv), .val (.int (p2.toInt8.toInt32)), .val (.int (p3.toInt8.toInt32)), .val (.ref b1), .val (.ref b2), .val (.int (0 : Int32)), .val (.int (1 : Int32))] [(.int (1 : Int32))]))
            refine ownVia (fun _ k => XS.istore X66.here hx rfl (hb hby at_174) rfl (l' := #[.val (.int p1), .val (.int p2), .val (.int p3), .val (.long q1), .second, .val (.int nv), .val (.int qv), .val (.int (p2.toInt8.toInt32)), .val (.int (p3.toInt8.toInt32)), .val (.ref b1), .val (.ref b2), .val (.int (0 : Int32)), .val (.int (1 : Int32))]) rfl k) ?_
            show ownFin _ _ _ _ _ (T66.setTop (mkF m 176 #[.val (.int p1), .val (.int p2), .val (.int p3), .val (.long q1), .second, .val (.int nv), .val (.int qv), .val (.int (p2.toInt8.toInt32)), .val (.int (p3.toInt8.toInt32)), .val (.ref b1), .val (.ref b2), .val (.int (0 : Int32)), .val (.int (1 : Int32))] []))
            refine ownVia (fun _ k => XS.iload X66.here hx rfl (hb hby at_176) rfl k) ?_
            show ownFin _ _ _ _ _ (T66.setTop (mkF m 178 #[.val (.int p1), .val (.int p2), .val (.int p3), .val (.long q1), .second, .val (.int nv), .val (.int qv), .val (.int (p2.toInt8.toInt32)), .val (.int (p3.toInt8.toInt32)), .val (.ref b1), .val (.ref b2), .val (.int (0 : Int32)), .val (.int (1 : Int32))] [(.int (1 : Int32))]))
            refine ownRetZ X66 hx hlk hret (hb hby at_178) (by decide) (by decide) (Or.inr rfl) ?_
            show (Q_own_law Z p1 p2 p3 q1 h0 n0 sN sE kN) (some (.int (1 : Int32))) T66.heap _
            rw [e66]
            exact ⟨rfl, N66⟩
      case neg =>
        have hc49I : ¬ nv.toInt = 1 := fun q => hc49 ((own_eqi rfl (by decide)).mpr q)
        refine ownVia (fun _ k => XS.icmpYes X0.here hx rfl (pc0 := 44) (pc' := 60) rfl (hb hby at_44) rfl (feq hc49).2 (by decide) (by decide) k) ?_
        show ownFin _ _ _ _ _ (T0.setTop (mkF m 60 #[.val (.int p1), .val (.int p2), .val (.int p3), .val (.long q1), .second, .val (.int nv), .val (.int qv), .val (.int (p2.toInt8.toInt32)), .val (.int (p3.toInt8.toInt32)), .unset, .unset, .unset, .unset] []))
        refine ownVia (fun _ k => XS.iconst X0.here hx rfl (hb hby at_60) k) ?_
        show ownFin _ _ _ _ _ (T0.setTop (mkF m 61 #[.val (.int p1), .val (.int p2), .val (.int p3), .val (.long q1), .second, .val (.int nv), .val (.int qv), .val (.int (p2.toInt8.toInt32)), .val (.int (p3.toInt8.toInt32)), .unset, .unset, .unset, .unset] [(.int (2 : Int32))]))
        refine ownNewP X0 hx hZ (hw _ (List.mem_of_getElem? (i := 0) rfl)) e0 "[B" (by decide) (by decide) (2) (by decide) (2) (by decide) (by decide) (by decide) (by decide) (hb hby at_61) ?_
        intro T67 h67 k_b1 b1 g67 X67 e67 E67 A_b1 E_b1
        have ge_b1 : n0 ≤ b1 := Nat.le_trans Z0 (Nat.le_of_eq g67.symm)
        have O := O.ext E67
        have Z0 := own_sz Z0 E67
        have A_b1 : Arv Z h67 b1 k_b1 .byte (2 : Int32) [(.int (0 : Int32)), (.int (0 : Int32))] (.int (0 : Int32)) := A_b1
        show ownFin _ _ _ _ _ (T67.setTop (mkF m 63 #[.val (.int p1), .val (.int p2), .val (.int p3), .val (.long q1), .second, .val (.int nv), .val (.int qv), .val (.int (p2.toInt8.toInt32)), .val (.int (p3.toInt8.toInt32)), .unset, .unset, .unset, .unset] [(.ref b1)]))
        refine ownVia (fun _ k => XS.dup X67.here hx rfl (hb hby at_63) rfl rfl k) ?_
        show ownFin _ _ _ _ _ (T67.setTop (mkF m 64 #[.val (.int p1), .val (.int p2), .val (.int p3), .val (.long q1), .second, .val (.int nv), .val (.int qv), .val (.int (p2.toInt8.toInt32)), .val (.int (p3.toInt8.toInt32)), .unset, .unset, .unset, .unset] [(.ref b1), (.ref b1)]))
        refine ownVia (fun _ k => XS.iconst X67.here hx rfl (hb hby at_64) k) ?_
        show ownFin _ _ _ _ _ (T67.setTop (mkF m 65 #[.val (.int p1), .val (.int p2), .val (.int p3), .val (.long q1), .second, .val (.int nv), .val (.int qv), .val (.int (p2.toInt8.toInt32)), .val (.int (p3.toInt8.toInt32)), .unset, .unset, .unset, .unset] [(.int (0 : Int32)), (.ref b1), (.ref b1)]))
        refine ownVia (fun _ k => XS.iload X67.here hx rfl (hb hby at_65) rfl k) ?_
        show ownFin _ _ _ _ _ (T67.setTop (mkF m 67 #[.val (.int p1), .val (.int p2), .val (.int p3), .val (.long q1), .second, .val (.int nv), .val (.int qv), .val (.int (p2.toInt8.toInt32)), .val (.int (p3.toInt8.toInt32)), .unset, .unset, .unset, .unset] [(.int (p2.toInt8.toInt32)), (.int (0 : Int32)), (.ref b1), (.ref b1)]))
        refine ownBastore X67 hx hZ e67 A_b1 ⟨by decide, by decide⟩ (0) (by decide) (Nat.le_of_ble_eq_true rfl) N0 ge_b1 (hb hby at_67) ?_
        intro T68 h68 L68 X68 e68 N68 W68 A_b1
        have E_b1 := E_b1.wr W68
        have Z0 := own_szW Z0 W68
        have O := O.wr W68 ge_b1
        have A_b1 : Arv Z h68 b1 k_b1 .byte (2 : Int32) [(.int (nar .byte (p2.toInt8.toInt32))), (.int (0 : Int32))] (.int (0 : Int32)) := A_b1
        show ownFin _ _ _ _ _ (T68.setTop (mkF m 68 #[.val (.int p1), .val (.int p2), .val (.int p3), .val (.long q1), .second, .val (.int nv), .val (.int qv), .val (.int (p2.toInt8.toInt32)), .val (.int (p3.toInt8.toInt32)), .unset, .unset, .unset, .unset] [(.ref b1)]))
        refine ownVia (fun _ k => XS.dup X68.here hx rfl (hb hby at_68) rfl rfl k) ?_
        show ownFin _ _ _ _ _ (T68.setTop (mkF m 69 #[.val (.int p1), .val (.int p2), .val (.int p3), .val (.long q1), .second, .val (.int nv), .val (.int qv), .val (.int (p2.toInt8.toInt32)), .val (.int (p3.toInt8.toInt32)), .unset, .unset, .unset, .unset] [(.ref b1), (.ref b1)]))
        refine ownVia (fun _ k => XS.iconst X68.here hx rfl (hb hby at_69) k) ?_
        show ownFin _ _ _ _ _ (T68.setTop (mkF m 70 #[.val (.int p1), .val (.int p2), .val (.int p3), .val (.long q1), .second, .val (.int nv), .val (.int qv), .val (.int (p2.toInt8.toInt32)), .val (.int (p3.toInt8.toInt32)), .unset, .unset, .unset, .unset] [(.int (1 : Int32)), (.ref b1), (.ref b1)]))
        refine ownVia (fun _ k => XS.iload X68.here hx rfl (hb hby at_70) rfl k) ?_
        show ownFin _ _ _ _ _ (T68.setTop (mkF m 72 #[.val (.int p1), .val (.int p2), .val (.int p3), .val (.long q1), .second, .val (.int nv), .val (.int qv), .val (.int (p2.toInt8.toInt32)), .val (.int (p3.toInt8.toInt32)), .unset, .unset, .unset, .unset] [(.int (p3.toInt8.toInt32)), (.int (1 : Int32)), (.ref b1), (.ref b1)]))
        refine ownBastore X68 hx hZ e68 A_b1 ⟨by decide, by decide⟩ (1) (by decide) (Nat.le_of_ble_eq_true rfl) N68 ge_b1 (hb hby at_72) ?_
        intro T69 h69 L69 X69 e69 N69 W69 A_b1
        have E_b1 := E_b1.wr W69
        have Z0 := own_szW Z0 W69
        have O := O.wr W69 ge_b1
        have A_b1 : Arv Z h69 b1 k_b1 .byte (2 : Int32) [(.int (nar .byte (p2.toInt8.toInt32))), (.int (nar .byte (p3.toInt8.toInt32)))] (.int (0 : Int32)) := A_b1
        show ownFin _ _ _ _ _ (T69.setTop (mkF m 73 #[.val (.int p1), .val (.int p2), .val (.int p3), .val (.long q1), .second, .val (.int nv), .val (.int qv), .val (.int (p2.toInt8.toInt32)), .val (.int (p3.toInt8.toInt32)), .unset, .unset, .unset, .unset] [(.ref b1)]))
        refine ownVia (fun _ k => XS.astore X69.here hx rfl (hb hby at_73) rfl rfl (l' := #[.val (.int p1), .val (.int p2), .val (.int p3), .val (.long q1), .second, .val (.int nv), .val (.int qv), .val (.int (p2.toInt8.toInt32)), .val (.int (p3.toInt8.toInt32)), .val (.ref b1), .unset, .unset, .unset]) rfl k) ?_
        show ownFin _ _ _ _ _ (T69.setTop (mkF m 75 #[.val (.int p1), .val (.int p2), .val (.int p3), .val (.long q1), .second, .val (.int nv), .val (.int qv), .val (.int (p2.toInt8.toInt32)), .val (.int (p3.toInt8.toInt32)), .val (.ref b1), .unset, .unset, .unset] []))
        obtain ⟨T70, h70, X70, e70, E70, A70, D70, -, st70⟩ := newO X69 hx hZ hown (hw _ (List.mem_of_getElem? (i := 1) rfl)) (hw _ (List.mem_of_getElem? (i := 2) rfl)) (hw _ (List.mem_of_getElem? (i := 3) rfl)) e69 (g := (mkF m 75 #[.val (.int p1), .val (.int p2), .val (.int p3), .val (.long q1), .second, .val (.int nv), .val (.int qv), .val (.int (p2.toInt8.toInt32)), .val (.int (p3.toInt8.toInt32)), .val (.ref b1), .unset, .unset, .unset] [])) rfl (hb hby at_75) (by decide) (by decide)
        obtain ⟨b2, g70⟩ : ∃ z, z = h69.size := ⟨_, rfl⟩
        rw [← g70] at A70 D70 st70
        have ne_b1_b2 : b1 ≠ b2 := Nat.ne_of_lt (Nat.lt_of_lt_of_le E_b1.lt (Nat.le_of_eq g70.symm))
        have ge_b2 : n0 ≤ b2 := Nat.le_trans Z0 (Nat.le_of_eq g70.symm)
        have A_b1 := A_b1.ext E70
        have E_b1 := E_b1.ext E70
        have O := O.ext E70
        have Z0 := own_sz Z0 E70
        have E_b2 := A70
        have F_b2_id : Fld Z h70 b2 "com/example/laiskas/laiskas/protocol/Message" "id" "[B" .null := D70 (Or.inr (hw _ (List.mem_of_getElem? (i := 37) rfl))) (ty := (.array .byte)) (by decide)
        have F_b2_acceptedMillis : Fld Z h70 b2 "com/example/laiskas/laiskas/protocol/Message" "acceptedMillis" "J" (.long (0 : Int64)) := D70 (Or.inr (hw _ (List.mem_of_getElem? (i := 39) rfl))) (ty := .long) (by decide)
        have F_b2_flags : Fld Z h70 b2 "com/example/laiskas/laiskas/protocol/Message" "flags" "[B" .null := D70 (Or.inr (hw _ (List.mem_of_getElem? (i := 41) rfl))) (ty := (.array .byte)) (by decide)
        have F_b2_body : Fld Z h70 b2 "com/example/laiskas/laiskas/protocol/Message" "body" "Lcom/example/laiskas/laiskas/protocol/Message$Body;" .null := D70 (Or.inr (hw _ (List.mem_of_getElem? (i := 43) rfl))) (ty := (.object "com/example/laiskas/laiskas/protocol/Message$Body")) (by decide)
        have F_b2_quotaMarker : Fld Z h70 b2 "com/example/laiskas/laiskas/protocol/Message" "quotaMarker" "Z" (.int (0 : Int32)) := D70 (Or.inr (hw _ (List.mem_of_getElem? (i := 45) rfl))) (ty := .boolean) (by decide)
        refine ownVia st70 ?_
        show ownFin _ _ _ _ _ (T70.setTop (mkF m 78 #[.val (.int p1), .val (.int p2), .val (.int p3), .val (.long q1), .second, .val (.int nv), .val (.int qv), .val (.int (p2.toInt8.toInt32)), .val (.int (p3.toInt8.toInt32)), .val (.ref b1), .unset, .unset, .unset] [(.ref b2)]))
        refine ownVia (fun _ k => XS.dup X70.here hx rfl (hb hby at_78) rfl rfl k) ?_
        show ownFin _ _ _ _ _ (T70.setTop (mkF m 79 #[.val (.int p1), .val (.int p2), .val (.int p3), .val (.long q1), .second, .val (.int nv), .val (.int qv), .val (.int (p2.toInt8.toInt32)), .val (.int (p3.toInt8.toInt32)), .val (.ref b1), .unset, .unset, .unset] [(.ref b2), (.ref b2)]))
        refine ownVia (fun _ k => XS.iconst X70.here hx rfl (hb hby at_79) k) ?_
        show ownFin _ _ _ _ _ (T70.setTop (mkF m 80 #[.val (.int p1), .val (.int p2), .val (.int p3), .val (.long q1), .second, .val (.int nv), .val (.int qv), .val (.int (p2.toInt8.toInt32)), .val (.int (p3.toInt8.toInt32)), .val (.ref b1), .unset, .unset, .unset] [(.int (0 : Int32)), (.ref b2), (.ref b2)]))
        refine ownNewP X70 hx hZ (hw _ (List.mem_of_getElem? (i := 0) rfl)) e70 "[B" (by decide) (by decide) (0) (by decide) (0) (by decide) (by decide) (by decide) (by decide) (hb hby at_80) ?_
        intro T71 h71 k_b3 b3 g71 X71 e71 E71 A_b3 E_b3
        have ne_b1_b3 : b1 ≠ b3 := Nat.ne_of_lt (Nat.lt_of_lt_of_le E_b1.lt (Nat.le_of_eq g71.symm))
        have ne_b2_b3 : b2 ≠ b3 := Nat.ne_of_lt (Nat.lt_of_lt_of_le E_b2.lt (Nat.le_of_eq g71.symm))
        have ge_b3 : n0 ≤ b3 := Nat.le_trans Z0 (Nat.le_of_eq g71.symm)
        have A_b1 := A_b1.ext E71
        have E_b1 := E_b1.ext E71
        have E_b2 := E_b2.ext E71
        have F_b2_id := F_b2_id.ext E71
        have F_b2_acceptedMillis := F_b2_acceptedMillis.ext E71
        have F_b2_flags := F_b2_flags.ext E71
        have F_b2_body := F_b2_body.ext E71
        have F_b2_quotaMarker := F_b2_quotaMarker.ext E71
        have O := O.ext E71
        have Z0 := own_sz Z0 E71
        have A_b3 : Arv Z h71 b3 k_b3 .byte (0 : Int32) [] (.int (0 : Int32)) := A_b3
        show ownFin _ _ _ _ _ (T71.setTop (mkF m 82 #[.val (.int p1), .val (.int p2), .val (.int p3), .val (.long q1), .second, .val (.int nv), .val (.int qv), .val (.int (p2.toInt8.toInt32)), .val (.int (p3.toInt8.toInt32)), .val (.ref b1), .unset, .unset, .unset] [(.ref b3), (.ref b2), (.ref b2)]))
        refine ownVia (fun _ k => XS.lloadN X71.here hx rfl (hb hby at_82) rfl k) ?_
        show ownFin _ _ _ _ _ (T71.setTop (mkF m 83 #[.val (.int p1), .val (.int p2), .val (.int p3), .val (.long q1), .second, .val (.int nv), .val (.int qv), .val (.int (p2.toInt8.toInt32)), .val (.int (p3.toInt8.toInt32)), .val (.ref b1), .unset, .unset, .unset] [(.long q1), (.ref b3), (.ref b2), (.ref b2)]))
        refine ownVia (fun _ k => XS.aload X71.here hx rfl (hb hby at_83) rfl rfl k) ?_
        show ownFin _ _ _ _ _ (T71.setTop (mkF m 85 #[.val (.int p1), .val (.int p2), .val (.int p3), .val (.long q1), .second, .val (.int nv), .val (.int qv), .val (.int (p2.toInt8.toInt32)), .val (.int (p3.toInt8.toInt32)), .val (.ref b1), .unset, .unset, .unset] [(.ref b1), (.long q1), (.ref b3), (.ref b2), (.ref b2)]))
        refine ownVia (fun _ k => XS.iconst X71.here hx rfl (hb hby at_85) k) ?_
        show ownFin _ _ _ _ _ (T71.setTop (mkF m 86 #[.val (.int p1), .val (.int p2), .val (.int p3), .val (.long q1), .second, .val (.int nv), .val (.int qv), .val (.int (p2.toInt8.toInt32)), .val (.int (p3.toInt8.toInt32)), .val (.ref b1), .unset, .unset, .unset] [(.int (0 : Int32)), (.ref b1), (.long q1), (.ref b3), (.ref b2), (.ref b2)]))
        refine ownNewP X71 hx hZ (hw _ (List.mem_of_getElem? (i := 0) rfl)) e71 "[B" (by decide) (by decide) (0) (by decide) (0) (by decide) (by decide) (by decide) (by decide) (hb hby at_86) ?_
        intro T72 h72 k_b4 b4 g72 X72 e72 E72 A_b4 E_b4
        have ne_b1_b4 : b1 ≠ b4 := Nat.ne_of_lt (Nat.lt_of_lt_of_le E_b1.lt (Nat.le_of_eq g72.symm))
        have ne_b2_b4 : b2 ≠ b4 := Nat.ne_of_lt (Nat.lt_of_lt_of_le E_b2.lt (Nat.le_of_eq g72.symm))
        have ne_b3_b4 : b3 ≠ b4 := Nat.ne_of_lt (Nat.lt_of_lt_of_le E_b3.lt (Nat.le_of_eq g72.symm))
        have ge_b4 : n0 ≤ b4 := Nat.le_trans Z0 (Nat.le_of_eq g72.symm)
        have A_b1 := A_b1.ext E72
        have E_b1 := E_b1.ext E72
        have E_b2 := E_b2.ext E72
        have F_b2_id := F_b2_id.ext E72
        have F_b2_acceptedMillis := F_b2_acceptedMillis.ext E72
        have F_b2_flags := F_b2_flags.ext E72
        have F_b2_body := F_b2_body.ext E72
        have F_b2_quotaMarker := F_b2_quotaMarker.ext E72
        have A_b3 := A_b3.ext E72
        have E_b3 := E_b3.ext E72
        have O := O.ext E72
        have Z0 := own_sz Z0 E72
        have A_b4 : Arv Z h72 b4 k_b4 .byte (0 : Int32) [] (.int (0 : Int32)) := A_b4
        show ownFin _ _ _ _ _ (T72.setTop (mkF m 88 #[.val (.int p1), .val (.int p2), .val (.int p3), .val (.long q1), .second, .val (.int nv), .val (.int qv), .val (.int (p2.toInt8.toInt32)), .val (.int (p3.toInt8.toInt32)), .val (.ref b1), .unset, .unset, .unset] [(.ref b4), (.ref b1), (.long q1), (.ref b3), (.ref b2), (.ref b2)]))
        refine ownCallN X72 hx hZ hown rfl (hw _ (List.mem_of_getElem? (i := 4) rfl)) (hw _ (List.mem_of_getElem? (i := 5) rfl)) (hw _ (List.mem_of_getElem? (i := 3) rfl)) (hw _ (List.mem_of_getElem? (i := 6) rfl)) (by decide) e72 (own_init4 l Z a0 hw b2 b3 q1 b1 b4 h72 n0 k_b3 k_b1 (0 : Int32) (2 : Int32) [] [(.int (nar .byte (p2.toInt8.toInt32))), (.int (nar .byte (p3.toInt8.toInt32)))] 0 2 k_b4 (0 : Int32) [] 0 Z0 F_b2_id F_b2_acceptedMillis F_b2_flags F_b2_body F_b2_quotaMarker E_b2 ge_b2 A_b3 E_b3 A_b1 E_b1 (by decide) (by decide) (by decide) (by decide) ne_b2_b3 (Ne.symm ne_b1_b2) A_b4 E_b4 (by decide) (by decide) ne_b2_b4) (by rw [hml]; rfl) b2 [(.ref b3), (.long q1), (.ref b1), (.ref b4)] [(.ref b2)] (lenOf own_pd3 rfl) rfl rfl 1 rfl (hb hby at_88) (by decide) (by decide) (by decide) (by decide) ?_
        intro v73 T73 L73 X73 hq73
        obtain ⟨rfl, N73q, K73, c1, c2, si73, sf73, F_b2_id, F_b2_acceptedMillis, F_b2_flags, F_b2_quotaMarker, A_c1, E_c1, A_c2⟩ := hq73
        have ne_b1_c1 : b1 ≠ c1 := Nat.ne_of_lt (Nat.lt_of_lt_of_le E_b1.lt si73)
        have ne_b2_c1 : b2 ≠ c1 := Nat.ne_of_lt (Nat.lt_of_lt_of_le E_b2.lt si73)
        have ne_b3_c1 : b3 ≠ c1 := Nat.ne_of_lt (Nat.lt_of_lt_of_le E_b3.lt si73)
        have ne_b4_c1 : b4 ≠ c1 := Nat.ne_of_lt (Nat.lt_of_lt_of_le E_b4.lt si73)
        have ge_c1 : n0 ≤ c1 := Nat.le_trans Z0 si73
        have ne_b1_c2 : b1 ≠ c2 := Nat.ne_of_lt (Nat.lt_of_lt_of_le E_b1.lt sf73)
        have ne_b2_c2 : b2 ≠ c2 := Nat.ne_of_lt (Nat.lt_of_lt_of_le E_b2.lt sf73)
        have ne_b3_c2 : b3 ≠ c2 := Nat.ne_of_lt (Nat.lt_of_lt_of_le E_b3.lt sf73)
        have ne_b4_c2 : b4 ≠ c2 := Nat.ne_of_lt (Nat.lt_of_lt_of_le E_b4.lt sf73)
        have ge_c2 : n0 ≤ c2 := Nat.le_trans Z0 sf73
        have A_b1 := A_b1.keep K73 (ninS ne_b1_b2 nin0)
        have E_b1 := E_b1.keep K73
        have E_b2 := E_b2.keep K73
        have A_b3 := A_b3.keep K73 (ninS (Ne.symm ne_b2_b3) nin0)
        have E_b3 := E_b3.keep K73
        have A_b4 := A_b4.keep K73 (ninS (Ne.symm ne_b2_b4) nin0)
        have E_b4 := E_b4.keep K73
        have Z0 := Nat.le_trans Z0 K73.1
        have O := O.keep K73 (allS ge_b2 all0)
        have N73 := Fr.app N69 N73q
        show ownFin _ _ _ _ _ (T73.setTop (mkF m 91 #[.val (.int p1), .val (.int p2), .val (.int p3), .val (.long q1), .second, .val (.int nv), .val (.int qv), .val (.int (p2.toInt8.toInt32)), .val (.int (p3.toInt8.toInt32)), .val (.ref b1), .unset, .unset, .unset] [(.ref b2)]))
        refine ownVia (fun _ k => XS.astore X73.here hx rfl (hb hby at_91) rfl rfl (l' := #[.val (.int p1), .val (.int p2), .val (.int p3), .val (.long q1), .second, .val (.int nv), .val (.int qv), .val (.int (p2.toInt8.toInt32)), .val (.int (p3.toInt8.toInt32)), .val (.ref b1), .val (.ref b2), .unset, .unset]) rfl k) ?_
        show ownFin _ _ _ _ _ (T73.setTop (mkF m 93 #[.val (.int p1), .val (.int p2), .val (.int p3), .val (.long q1), .second, .val (.int nv), .val (.int qv), .val (.int (p2.toInt8.toInt32)), .val (.int (p3.toInt8.toInt32)), .val (.ref b1), .val (.ref b2), .unset, .unset] []))
        refine ownVia (fun _ k => XS.iload X73.here hx rfl (hb hby at_93) rfl k) ?_
        show ownFin _ _ _ _ _ (T73.setTop (mkF m 95 #[.val (.int p1), .val (.int p2), .val (.int p3), .val (.long q1), .second, .val (.int nv), .val (.int qv), .val (.int (p2.toInt8.toInt32)), .val (.int (p3.toInt8.toInt32)), .val (.ref b1), .val (.ref b2), .unset, .unset] [(.int nv)]))
        refine ownVia (fun _ k => XS.ifNo X73.here hx rfl (hb hby at_95) rfl ((if0 _ _).trans (tlt ((own_lti (by decide : (0 : Int32).toInt = 0) (by omega : nv.toInt = 2)).mpr (by decide))).2.2.2) k) ?_
        show ownFin _ _ _ _ _ (T73.setTop (mkF m 98 #[.val (.int p1), .val (.int p2), .val (.int p3), .val (.long q1), .second, .val (.int nv), .val (.int qv), .val (.int (p2.toInt8.toInt32)), .val (.int (p3.toInt8.toInt32)), .val (.ref b1), .val (.ref b2), .unset, .unset] []))
        refine ownVia (fun _ k => XS.iloadN X73.here hx rfl (hb hby at_98) rfl k) ?_
        show ownFin _ _ _ _ _ (T73.setTop (mkF m 99 #[.val (.int p1), .val (.int p2), .val (.int p3), .val (.long q1), .second, .val (.int nv), .val (.int qv), .val (.int (p2.toInt8.toInt32)), .val (.int (p3.toInt8.toInt32)), .val (.ref b1), .val (.ref b2), .unset, .unset] [(.int p2)]))
        refine ownVia (fun _ k => XS.sipush X73.here hx rfl (hb hby at_99) k) ?_
        show ownFin _ _ _ _ _ (T73.setTop (mkF m 102 #[.val (.int p1), .val (.int p2), .val (.int p3), .val (.long q1), .second, .val (.int nv), .val (.int qv), .val (.int (p2.toInt8.toInt32)), .val (.int (p3.toInt8.toInt32)), .val (.ref b1), .val (.ref b2), .unset, .unset] [(.int (255 : Int32)), (.int p2)]))
        refine ownVia (fun _ k => XS.iand X73.here hx rfl (hb hby at_102) rfl k) ?_
        show ownFin _ _ _ _ _ (T73.setTop (mkF m 103 #[.val (.int p1), .val (.int p2), .val (.int p3), .val (.long q1), .second, .val (.int nv), .val (.int qv), .val (.int (p2.toInt8.toInt32)), .val (.int (p3.toInt8.toInt32)), .val (.ref b1), .val (.ref b2), .unset, .unset] [(.int (p2 &&& (255 : Int32)))]))
        refine ownVia (fun _ k => XS.bipush X73.here hx rfl (hb hby at_103) k) ?_
        show ownFin _ _ _ _ _ (T73.setTop (mkF m 105 #[.val (.int p1), .val (.int p2), .val (.int p3), .val (.long q1), .second, .val (.int nv), .val (.int qv), .val (.int (p2.toInt8.toInt32)), .val (.int (p3.toInt8.toInt32)), .val (.ref b1), .val (.ref b2), .unset, .unset] [(.int (84 : Int32)), (.int (p2 &&& (255 : Int32)))]))
        by_cases hc74 : (p2 &&& (255 : Int32)) = (84 : Int32)
        case pos =>
          have hc74I : (p2 &&& (255 : Int32)).toInt = 84 := (own_eqi rfl (by decide)).mp hc74
          refine ownVia (fun _ k => XS.icmpNo X73.here hx rfl (hb hby at_105) rfl (teq hc74).2 k) ?_
          show ownFin _ _ _ _ _ (T73.setTop (mkF m 108 #[.val (.int p1), .val (.int p2), .val (.int p3), .val (.long q1), .second, .val (.int nv), .val (.int qv), .val (.int (p2.toInt8.toInt32)), .val (.int (p3.toInt8.toInt32)), .val (.ref b1), .val (.ref b2), .unset, .unset] []))
          refine ownVia (fun _ k => XS.iconst X73.here hx rfl (hb hby at_108) k) ?_
          show ownFin _ _ _ _ _ (T73.setTop (mkF m 109 #[.val (.int p1), .val (.int p2), .val (.int p3), .val (.long q1), .second, .val (.int nv), .val (.int qv), .val (.int (p2.toInt8.toInt32)), .val (.int (p3.toInt8.toInt32)), .val (.ref b1), .val (.ref b2), .unset, .unset] [(.int (1 : Int32))]))
          refine ownVia (fun _ k => XS.goto X73.here hx rfl (pc0 := 109) (pc' := 113) rfl (hb hby at_109) (by decide) (by decide) k) ?_
          show ownFin _ _ _ _ _ (T73.setTop (mkF m 113 #[.val (.int p1), .val (.int p2), .val (.int p3), .val (.long q1), .second, .val (.int nv), .val (.int qv), .val (.int (p2.toInt8.toInt32)), .val (.int (p3.toInt8.toInt32)), .val (.ref b1), .val (.ref b2), .unset, .unset] [(.int (1 : Int32))]))
          refine ownVia (fun _ k => XS.istore X73.here hx rfl (hb hby at_113) rfl (l' := #[.val (.int p1), .val (.int p2), .val (.int p3), .val (.long q1), .second, .val (.int nv), .val (.int qv), .val (.int (p2.toInt8.toInt32)), .val (.int (p3.toInt8.toInt32)), .val (.ref b1), .val (.ref b2), .val (.int (1 : Int32)), .unset]) rfl k) ?_
          show ownFin _ _ _ _ _ (T73.setTop (mkF m 115 #[.val (.int p1), .val (.int p2), .val (.int p3), .val (.long q1), .second, .val (.int nv), .val (.int qv), .val (.int (p2.toInt8.toInt32)), .val (.int (p3.toInt8.toInt32)), .val (.ref b1), .val (.ref b2), .val (.int (1 : Int32)), .unset] []))
          refine ownVia (fun _ k => XS.iload X73.here hx rfl (hb hby at_115) rfl k) ?_
          show ownFin _ _ _ _ _ (T73.setTop (mkF m 117 #[.val (.int p1), .val (.int p2), .val (.int p3), .val (.long q1), .second, .val (.int nv), .val (.int qv), .val (.int (p2.toInt8.toInt32)), .val (.int (p3.toInt8.toInt32)), .val (.ref b1), .val (.ref b2), .val (.int (1 : Int32)), .unset] [(.int nv)]))
          refine ownVia (fun _ k => XS.ifNo X73.here hx rfl (hb hby at_117) rfl ((if0 _ _).trans (tlt ((own_lti (by decide : (0 : Int32).toInt = 0) (by omega : nv.toInt = 2)).mpr (by decide))).2.2.2) k) ?_
          show ownFin _ _ _ _ _ (T73.setTop (mkF m 120 #[.val (.int p1), .val (.int p2), .val (.int p3), .val (.long q1), .second, .val (.int nv), .val (.int qv), .val (.int (p2.toInt8.toInt32)), .val (.int (p3.toInt8.toInt32)), .val (.ref b1), .val (.ref b2), .val (.int (1 : Int32)), .unset] []))
          refine ownVia (fun _ k => XS.aload X73.here hx rfl (hb hby at_120) rfl rfl k) ?_
          show ownFin _ _ _ _ _ (T73.setTop (mkF m 122 #[.val (.int p1), .val (.int p2), .val (.int p3), .val (.long q1), .second, .val (.int nv), .val (.int qv), .val (.int (p2.toInt8.toInt32)), .val (.int (p3.toInt8.toInt32)), .val (.ref b1), .val (.ref b2), .val (.int (1 : Int32)), .unset] [(.ref b1)]))
          refine ownVia (fun _ k => XS.iconst X73.here hx rfl (hb hby at_122) k) ?_
          show ownFin _ _ _ _ _ (T73.setTop (mkF m 123 #[.val (.int p1), .val (.int p2), .val (.int p3), .val (.long q1), .second, .val (.int nv), .val (.int qv), .val (.int (p2.toInt8.toInt32)), .val (.int (p3.toInt8.toInt32)), .val (.ref b1), .val (.ref b2), .val (.int (1 : Int32)), .unset] [(.int (0 : Int32)), (.ref b1)]))
          refine ownVia (fun _ k => XS.aload X73.here hx rfl (hb hby at_123) rfl rfl k) ?_
          show ownFin _ _ _ _ _ (T73.setTop (mkF m 125 #[.val (.int p1), .val (.int p2), .val (.int p3), .val (.long q1), .second, .val (.int nv), .val (.int qv), .val (.int (p2.toInt8.toInt32)), .val (.int (p3.toInt8.toInt32)), .val (.ref b1), .val (.ref b2), .val (.int (1 : Int32)), .unset] [(.ref b1), (.int (0 : Int32)), (.ref b1)]))
          refine ownVia (fun _ k => XS.iconst X73.here hx rfl (hb hby at_125) k) ?_
          show ownFin _ _ _ _ _ (T73.setTop (mkF m 126 #[.val (.int p1), .val (.int p2), .val (.int p3), .val (.long q1), .second, .val (.int nv), .val (.int qv), .val (.int (p2.toInt8.toInt32)), .val (.int (p3.toInt8.toInt32)), .val (.ref b1), .val (.ref b2), .val (.int (1 : Int32)), .unset] [(.int (0 : Int32)), (.ref b1), (.int (0 : Int32)), (.ref b1)]))
          refine ownBaload X73 hx hZ (rfl : T73.heap = T73.heap) A_b1 ⟨by decide, by decide⟩ (v := (.int (nar .byte (p2.toInt8.toInt32)))) rfl (hb hby at_126) ?_
          show ownFin _ _ _ _ _ (T73.setTop (mkF m 127 #[.val (.int p1), .val (.int p2), .val (.int p3), .val (.long q1), .second, .val (.int nv), .val (.int qv), .val (.int (p2.toInt8.toInt32)), .val (.int (p3.toInt8.toInt32)), .val (.ref b1), .val (.ref b2), .val (.int (1 : Int32)), .unset] [(.int (nar .byte (p2.toInt8.toInt32))), (.int (0 : Int32)), (.ref b1)]))
          refine ownVia (fun _ k => XS.iconst X73.here hx rfl (hb hby at_127) k) ?_
          show ownFin _ _ _ _ _ (T73.setTop (mkF m 128 #[.val (.int p1), .val (.int p2), .val (.int p3), .val (.long q1), .second, .val (.int nv), .val (.int qv), .val (.int (p2.toInt8.toInt32)), .val (.int (p3.toInt8.toInt32)), .val (.ref b1), .val (.ref b2), .val (.int (1 : Int32)), .unset] [(.int (-1 : Int32)), (.int (nar .byte (p2.toInt8.toInt32))), (.int (0 : Int32)), (.ref b1)]))
          refine ownVia (fun _ k => XS.ixor X73.here hx rfl (hb hby at_128) rfl k) ?_
          show ownFin _ _ _ _ _ (T73.setTop (mkF m 129 #[.val (.int p1), .val (.int p2), .val (.int p3), .val (.long q1), .second, .val (.int nv), .val (.int qv), .val (.int (p2.toInt8.toInt32)), .val (.int (p3.toInt8.toInt32)), .val (.ref b1), .val (.ref b2), .val (.int (1 : Int32)), .unset] [(.int ((nar .byte (p2.toInt8.toInt32)) ^^^ (-1 : Int32))), (.int (0 : Int32)), (.ref b1)]))
          refine ownVia (fun _ k => XS.i2b X73.here hx rfl (hb hby at_129) rfl k) ?_
          show ownFin _ _ _ _ _ (T73.setTop (mkF m 130 #[.val (.int p1), .val (.int p2), .val (.int p3), .val (.long q1), .second, .val (.int nv), .val (.int qv), .val (.int (p2.toInt8.toInt32)), .val (.int (p3.toInt8.toInt32)), .val (.ref b1), .val (.ref b2), .val (.int (1 : Int32)), .unset] [(.int (((nar .byte (p2.toInt8.toInt32)) ^^^ (-1 : Int32)).toInt8.toInt32)), (.int (0 : Int32)), (.ref b1)]))
          refine ownBastore X73 hx hZ (rfl : T73.heap = T73.heap) A_b1 ⟨by decide, by decide⟩ (0) (by decide) (Nat.le_of_ble_eq_true rfl) N73 ge_b1 (hb hby at_130) ?_
          intro T75 h75 L75 X75 e75 N75 W75 A_b1
          have E_b1 := E_b1.wr W75
          have E_b2 := E_b2.wr W75
          have A_b3 := A_b3.other W75 (Ne.symm ne_b1_b3)
          have E_b3 := E_b3.wr W75
          have A_b4 := A_b4.other W75 (Ne.symm ne_b1_b4)
          have E_b4 := E_b4.wr W75
          have F_b2_id := F_b2_id.other W75 (Or.inl (Ne.symm ne_b1_b2))
          have F_b2_acceptedMillis := F_b2_acceptedMillis.other W75 (Or.inl (Ne.symm ne_b1_b2))
          have F_b2_flags := F_b2_flags.other W75 (Or.inl (Ne.symm ne_b1_b2))
          have F_b2_quotaMarker := F_b2_quotaMarker.other W75 (Or.inl (Ne.symm ne_b1_b2))
          have A_c1 := A_c1.other W75 (Ne.symm ne_b1_c1)
          have E_c1 := E_c1.wr W75
          have A_c2 := A_c2.other W75 (Ne.symm ne_b1_c2)
          have Z0 := own_szW Z0 W75
          have O := O.wr W75 ge_b1
          have A_b1 : Arv Z h75 b1 k_b1 .byte (2 : Int32) [(.int (nar .byte (((nar .byte (p2.toInt8.toInt32)) ^^^ (-1 : Int32)).toInt8.toInt32))), (.int (nar .byte (p3.toInt8.toInt32)))] (.int (0 : Int32)) := A_b1
          show ownFin _ _ _ _ _ (T75.setTop (mkF m 131 #[.val (.int p1), .val (.int p2), .val (.int p3), .val (.long q1), .second, .val (.int nv), .val (.int qv), .val (.int (p2.toInt8.toInt32)), .val (.int (p3.toInt8.toInt32)), .val (.ref b1), .val (.ref b2), .val (.int (1 : Int32)), .unset] []))
          refine ownVia (fun _ k => XS.aload X75.here hx rfl (hb hby at_131) rfl rfl k) ?_
          show ownFin _ _ _ _ _ (T75.setTop (mkF m 133 #[.val (.int p1), .val (.int p2), .val (.int p3), .val (.long q1), .second, .val (.int nv), .val (.int qv), .val (.int (p2.toInt8.toInt32)), .val (.int (p3.toInt8.toInt32)), .val (.ref b1), .val (.ref b2), .val (.int (1 : Int32)), .unset] [(.ref b2)]))
          refine ownCallV X75 hx hZ hown (hw _ (List.mem_of_getElem? (i := 46) rfl)) (hw _ (List.mem_of_getElem? (i := 47) rfl)) (hw _ (List.mem_of_getElem? (i := 49) rfl)) (hw _ (List.mem_of_getElem? (i := 49) rfl)) (hw _ (List.mem_of_getElem? (i := 48) rfl)) (hw _ (List.mem_of_getElem? (i := 3) rfl)) (hw _ (List.mem_of_getElem? (i := 50) rfl)) (by decide) e75 E_b2 (own_not l Z a0 hw b2 h75 n0 c2 k_b1 (2 : Int32) ([(nar .byte (p2.toInt8.toInt32)), (nar .byte (p3.toInt8.toInt32))] : List Int32) Z0 F_b2_quotaMarker F_b2_flags A_c2 (by show (2 : Int32).toInt = ((2 : Nat) : Int); decide)) (by rw [hml]; rfl) [] [] (lenOf own_pd4 rfl) rfl rfl 0 rfl (hb hby at_133) (by decide) (by decide) (by decide) (by decide) ?_
          intro v76 T76 L76 X76 hq76
          obtain ⟨rfl, N76q, eq76⟩ := hq76
          have N76 := Fr.app N75 N76q
          have e76 : T76.heap = h75 := eq76
          show ownFin _ _ _ _ _ (T76.setTop (mkF m 136 #[.val (.int p1), .val (.int p2), .val (.int p3), .val (.long q1), .second, .val (.int nv), .val (.int qv), .val (.int (p2.toInt8.toInt32)), .val (.int (p3.toInt8.toInt32)), .val (.ref b1), .val (.ref b2), .val (.int (1 : Int32)), .unset] [(.int (own_nf ([(nar .byte (p2.toInt8.toInt32)), (nar .byte (p3.toInt8.toInt32))] : List Int32)))]))
          refine ownVia (fun _ k => XS.iload X76.here hx rfl (hb hby at_136) rfl k) ?_
          show ownFin _ _ _ _ _ (T76.setTop (mkF m 138 #[.val (.int p1), .val (.int p2), .val (.int p3), .val (.long q1), .second, .val (.int nv), .val (.int qv), .val (.int (p2.toInt8.toInt32)), .val (.int (p3.toInt8.toInt32)), .val (.ref b1), .val (.ref b2), .val (.int (1 : Int32)), .unset] [(.int (1 : Int32)), (.int (own_nf ([(nar .byte (p2.toInt8.toInt32)), (nar .byte (p3.toInt8.toInt32))] : List Int32)))]))
          refine ownVia (fun _ k => XS.icmpNo X76.here hx rfl (hb hby at_138) rfl (teq (own_nf1 (bs := ([(nar .byte (p2.toInt8.toInt32)), (nar .byte (p3.toInt8.toInt32))] : List Int32)) (by show 0 < 2; decide) ((own_b84 p2).mpr hc74))).2 k) ?_
          show ownFin _ _ _ _ _ (T76.setTop (mkF m 141 #[.val (.int p1), .val (.int p2), .val (.int p3), .val (.long q1), .second, .val (.int nv), .val (.int qv), .val (.int (p2.toInt8.toInt32)), .val (.int (p3.toInt8.toInt32)), .val (.ref b1), .val (.ref b2), .val (.int (1 : Int32)), .unset] []))
          refine ownVia (fun _ k => XS.iconst X76.here hx rfl (hb hby at_141) k) ?_
          show ownFin _ _ _ _ _ (T76.setTop (mkF m 142 #[.val (.int p1), .val (.int p2), .val (.int p3), .val (.long q1), .second, .val (.int nv), .val (.int qv), .val (.int (p2.toInt8.toInt32)), .val (.int (p3.toInt8.toInt32)), .val (.ref b1), .val (.ref b2), .val (.int (1 : Int32)), .unset] [(.int (1 : Int32))]))
          refine ownVia (fun _ k => XS.goto X76.here hx rfl (pc0 := 142) (pc' := 146) rfl (hb hby at_142) (by decide) (by decide) k) ?_
          show ownFin _ _ _ _ _ (T76.setTop (mkF m 146 #[.val (.int p1), .val (.int p2), .val (.int p3), .val (.long q1), .second, .val (.int nv), .val (.int qv), .val (.int (p2.toInt8.toInt32)), .val (.int (p3.toInt8.toInt32)), .val (.ref b1), .val (.ref b2), .val (.int (1 : Int32)), .unset] [(.int (1 : Int32))]))
          refine ownVia (fun _ k => XS.istore X76.here hx rfl (hb hby at_146) rfl (l' := #[.val (.int p1), .val (.int p2), .val (.int p3), .val (.long q1), .second, .val (.int nv), .val (.int qv), .val (.int (p2.toInt8.toInt32)), .val (.int (p3.toInt8.toInt32)), .val (.ref b1), .val (.ref b2), .val (.int (1 : Int32)), .val (.int (1 : Int32))]) rfl k) ?_
          show ownFin _ _ _ _ _ (T76.setTop (mkF m 148 #[.val (.int p1), .val (.int p2), .val (.int p3), .val (.long q1), .second, .val (.int nv), .val (.int qv), .val (.int (p2.toInt8.toInt32)), .val (.int (p3.toInt8.toInt32)), .val (.ref b1), .val (.ref b2), .val (.int (1 : Int32)), .val (.int (1 : Int32))] []))
          refine ownVia (fun _ k => XS.iload X76.here hx rfl (hb hby at_148) rfl k) ?_
          show ownFin _ _ _ _ _ (T76.setTop (mkF m 150 #[.val (.int p1), .val (.int p2), .val (.int p3), .val (.long q1), .second, .val (.int nv), .val (.int qv), .val (.int (p2.toInt8.toInt32)), .val (.int (p3.toInt8.toInt32)), .val (.ref b1), .val (.ref b2), .val (.int (1 : Int32)), .val (.int (1 : Int32))] [(.int qv)]))
          by_cases hc77 : qv = (0 : Int32)
          case pos =>
            have hc77I : qv.toInt = 0 := (own_eqi rfl (by decide)).mp hc77
            refine ownVia (fun _ k => XS.ifYes X76.here hx rfl (pc0 := 150) (pc' := 176) rfl (hb hby at_150) rfl ((if0 _ _).trans (teq hc77).1) (by decide) (by decide) k) ?_
            show ownFin _ _ _ _ _ (T76.setTop (mkF m 176 #[.val (.int p1), .val (.int p2), .val (.int p3), .val (.long q1), .second, .val (.int nv), .val (.int qv), .val (.int (p2.toInt8.toInt32)), .val (.int (p3.toInt8.toInt32)), .val (.ref b1), .val (.ref b2), .val (.int (1 : Int32)), .val (.int (1 : Int32))] []))
            refine ownVia (fun _ k => XS.iload X76.here hx rfl (hb hby at_176) rfl k) ?_
            show ownFin _ _ _ _ _ (T76.setTop (mkF m 178 #[.val (.int p1), .val (.int p2), .val (.int p3), .val (.long q1), .second, .val (.int nv), .val (.int qv), .val (.int (p2.toInt8.toInt32)), .val (.int (p3.toInt8.toInt32)), .val (.ref b1), .val (.ref b2), .val (.int (1 : Int32)), .val (.int (1 : Int32))] [(.int (1 : Int32))]))
            refine ownRetZ X76 hx hlk hret (hb hby at_178) (by decide) (by decide) (Or.inr rfl) ?_
            show (Q_own_law Z p1 p2 p3 q1 h0 n0 sN sE kN) (some (.int (1 : Int32))) T76.heap _
            rw [e76]
            exact ⟨rfl, N76⟩
          case neg =>
            have hc77I : ¬ qv.toInt = 0 := fun q => hc77 ((own_eqi rfl (by decide)).mpr q)
            refine ownVia (fun _ k => XS.ifNo X76.here hx rfl (hb hby at_150) rfl ((if0 _ _).trans (feq hc77).1) k) ?_
            show ownFin _ _ _ _ _ (T76.setTop (mkF m 153 #[.val (.int p1), .val (.int p2), .val (.int p3), .val (.long q1), .second, .val (.int nv), .val (.int qv), .val (.int (p2.toInt8.toInt32)), .val (.int (p3.toInt8.toInt32)), .val (.ref b1), .val (.ref b2), .val (.int (1 : Int32)), .val (.int (1 : Int32))] []))
            refine ownVia (fun _ k => XS.iload X76.here hx rfl (hb hby at_153) rfl k) ?_
            show ownFin _ _ _ _ _ (T76.setTop (mkF m 155 #[.val (.int p1), .val (.int p2), .val (.int p3), .val (.long q1), .second, .val (.int nv), .val (.int qv), .val (.int (p2.toInt8.toInt32)), .val (.int (p3.toInt8.toInt32)), .val (.ref b1), .val (.ref b2), .val (.int (1 : Int32)), .val (.int (1 : Int32))] [(.int (1 : Int32))]))
            refine ownVia (fun _ k => XS.ifNo X76.here hx rfl (hb hby at_155) rfl ((if0 _ _).trans (feq (by decide)).1) k) ?_
            show ownFin _ _ _ _ _ (T76.setTop (mkF m 158 #[.val (.int p1), .val (.int p2), .val (.int p3), .val (.long q1), .second, .val (.int nv), .val (.int qv), .val (.int (p2.toInt8.toInt32)), .val (.int (p3.toInt8.toInt32)), .val (.ref b1), .val (.ref b2), .val (.int (1 : Int32)), .val (.int (1 : Int32))] []))
            refine ownVia (fun _ k => XS.aload X76.here hx rfl (hb hby at_158) rfl rfl k) ?_
            show ownFin _ _ _ _ _ (T76.setTop (mkF m 160 #[.val (.int p1), .val (.int p2), .val (.int p3), .val (.long q1), .second, .val (.int nv), .val (.int qv), .val (.int (p2.toInt8.toInt32)), .val (.int (p3.toInt8.toInt32)), .val (.ref b1), .val (.ref b2), .val (.int (1 : Int32)), .val (.int (1 : Int32))] [(.ref b2)]))
            refine ownCallV X76 hx hZ hown (hw _ (List.mem_of_getElem? (i := 51) rfl)) (hw _ (List.mem_of_getElem? (i := 52) rfl)) (hw _ (List.mem_of_getElem? (i := 54) rfl)) (hw _ (List.mem_of_getElem? (i := 54) rfl)) (hw _ (List.mem_of_getElem? (i := 53) rfl)) (hw _ (List.mem_of_getElem? (i := 3) rfl)) (hw _ (List.mem_of_getElem? (i := 55) rfl)) (by decide) e76 E_b2 (own_qm l Z a0 hw b2 h75 n0 c1 sN sE k_b3 kN q1 (0 : Int32) (0 : Int32) [] [] 0 0 Z0 F_b2_id F_b2_acceptedMillis A_c1 E_c1 (by decide) (by decide) (S_N.ext O.2) (S_E.ext O.2) (A_sN.ext O.2) (E_sN.ext O.2) (by decide) (by decide)) (by rw [hml]; rfl) [] [] (lenOf own_pd5 rfl) rfl rfl 0 rfl (hb hby at_160) (by decide) (by decide) (by decide) (by decide) ?_
            intro v78 T78 L78 X78 hq78
            obtain ⟨d1, rfl, N78q, K78, sq78, E_d1, F_d1⟩ := hq78
            have Z0 := Nat.le_trans Z0 K78.1
            have O := O.keep K78 all0
            have N78 := Fr.app N76 N78q
            show ownFin _ _ _ _ _ (T78.setTop (mkF m 163 #[.val (.int p1), .val (.int p2), .val (.int p3), .val (.long q1), .second, .val (.int nv), .val (.int qv), .val (.int (p2.toInt8.toInt32)), .val (.int (p3.toInt8.toInt32)), .val (.ref b1), .val (.ref b2), .val (.int (1 : Int32)), .val (.int (1 : Int32))] [(.ref d1)]))
            refine ownCallV X78 hx hZ hown (hw _ (List.mem_of_getElem? (i := 46) rfl)) (hw _ (List.mem_of_getElem? (i := 47) rfl)) (hw _ (List.mem_of_getElem? (i := 49) rfl)) (hw _ (List.mem_of_getElem? (i := 49) rfl)) (hw _ (List.mem_of_getElem? (i := 48) rfl)) (hw _ (List.mem_of_getElem? (i := 3) rfl)) (hw _ (List.mem_of_getElem? (i := 50) rfl)) (by decide) (rfl : T78.heap = T78.heap) E_d1 (own_notq l Z a0 hw d1 T78.heap n0 Z0 F_d1) (by rw [hml]; rfl) [] [] (lenOf own_pd4 rfl) rfl rfl 0 rfl (hb hby at_163) (by decide) (by decide) (by decide) (by decide) ?_
            intro v79 T79 L79 X79 hq79
            obtain ⟨rfl, N79q, eq79⟩ := hq79
            have N79 := Fr.app N78 N79q
            have e79 : T79.heap = T78.heap := eq79
            show ownFin _ _ _ _ _ (T79.setTop (mkF m 166 #[.val (.int p1), .val (.int p2), .val (.int p3), .val (.long q1), .second, .val (.int nv), .val (.int qv), .val (.int (p2.toInt8.toInt32)), .val (.int (p3.toInt8.toInt32)), .val (.ref b1), .val (.ref b2), .val (.int (1 : Int32)), .val (.int (1 : Int32))] [(.int (0 : Int32))]))
            refine ownVia (fun _ k => XS.ifNo X79.here hx rfl (hb hby at_166) rfl ((if0 _ _).trans (teq rfl).2) k) ?_
            show ownFin _ _ _ _ _ (T79.setTop (mkF m 169 #[.val (.int p1), .val (.int p2), .val (.int p3), .val (.long q1), .second, .val (.int nv), .val (.int qv), .val (.int (p2.toInt8.toInt32)), .val (.int (p3.toInt8.toInt32)), .val (.ref b1), .val (.ref b2), .val (.int (1 : Int32)), .val (.int (1 : Int32))] []))
            refine ownVia (fun _ k => XS.iconst X79.here hx rfl (hb hby at_169) k) ?_
            show ownFin _ _ _ _ _ (T79.setTop (mkF m 170 #[.val (.int p1), .val (.int p2), .val (.int p3), .val (.long q1), .second, .val (.int nv), .val (.int qv), .val (.int (p2.toInt8.toInt32)), .val (.int (p3.toInt8.toInt32)), .val (.ref b1), .val (.ref b2), .val (.int (1 : Int32)), .val (.int (1 : Int32))] [(.int (1 : Int32))]))
            refine ownVia (fun _ k => XS.goto X79.here hx rfl (pc0 := 170) (pc' := 174) rfl (hb hby at_170) (by decide) (by decide) k) ?_
            show ownFin _ _ _ _ _ (T79.setTop (mkF m 174 #[.val (.int p1), .val (.int p2), .val (.int p3), .val (.long q1), .second, .val (.int nv), .val (.int qv), .val (.int (p2.toInt8.toInt32)), .val (.int (p3.toInt8.toInt32)), .val (.ref b1), .val (.ref b2), .val (.int (1 : Int32)), .val (.int (1 : Int32))] [(.int (1 : Int32))]))
            refine ownVia (fun _ k => XS.istore X79.here hx rfl (hb hby at_174) rfl (l' := #[.val (.int p1), .val (.int p2), .val (.int p3), .val (.long q1), .second, .val (.int nv), .val (.int qv), .val (.int (p2.toInt8.toInt32)), .val (.int (p3.toInt8.toInt32)), .val (.ref b1), .val (.ref b2), .val (.int (1 : Int32)), .val (.int (1 : Int32))]) rfl k) ?_
            show ownFin _ _ _ _ _ (T79.setTop (mkF m 176 #[.val (.int p1), .val (.int p2), .val (.int p3), .val (.long q1), .second, .val (.int nv), .val (.int qv), .val (.int (p2.toInt8.toInt32)), .val (.int (p3.toInt8.toInt32)), .val (.ref b1), .val (.ref b2), .val (.int (1 : Int32)), .val (.int (1 : Int32))] []))
            refine ownVia (fun _ k => XS.iload X79.here hx rfl (hb hby at_176) rfl k) ?_
            show ownFin _ _ _ _ _ (T79.setTop (mkF m 178 #[.val (.int p1), .val (.int p2), .val (.int p3), .val (.long q1), .second, .val (.int nv), .val (.int qv), .val (.int (p2.toInt8.toInt32)), .val (.int (p3.toInt8.toInt32)), .val (.ref b1), .val (.ref b2), .val (.int (1 : Int32)), .val (.int (1 : Int32))] [(.int (1 : Int32))]))
            refine ownRetZ X79 hx hlk hret (hb hby at_178) (by decide) (by decide) (Or.inr rfl) ?_
            show (Q_own_law Z p1 p2 p3 q1 h0 n0 sN sE kN) (some (.int (1 : Int32))) T79.heap _
            rw [e79]
            exact ⟨rfl, N79⟩
        case neg =>
          have hc74I : ¬ (p2 &&& (255 : Int32)).toInt = 84 := fun q => hc74 ((own_eqi rfl (by decide)).mpr q)
          refine ownVia (fun _ k => XS.icmpYes X73.here hx rfl (pc0 := 105) (pc' := 112) rfl (hb hby at_105) rfl (feq hc74).2 (by decide) (by decide) k) ?_
          show ownFin _ _ _ _ _ (T73.setTop (mkF m 112 #[.val (.int p1), .val (.int p2), .val (.int p3), .val (.long q1), .second, .val (.int nv), .val (.int qv), .val (.int (p2.toInt8.toInt32)), .val (.int (p3.toInt8.toInt32)), .val (.ref b1), .val (.ref b2), .unset, .unset] []))
          refine ownVia (fun _ k => XS.iconst X73.here hx rfl (hb hby at_112) k) ?_
          show ownFin _ _ _ _ _ (T73.setTop (mkF m 113 #[.val (.int p1), .val (.int p2), .val (.int p3), .val (.long q1), .second, .val (.int nv), .val (.int qv), .val (.int (p2.toInt8.toInt32)), .val (.int (p3.toInt8.toInt32)), .val (.ref b1), .val (.ref b2), .unset, .unset] [(.int (0 : Int32))]))
          refine ownVia (fun _ k => XS.istore X73.here hx rfl (hb hby at_113) rfl (l' := #[.val (.int p1), .val (.int p2), .val (.int p3), .val (.long q1), .second, .val (.int nv), .val (.int qv), .val (.int (p2.toInt8.toInt32)), .val (.int (p3.toInt8.toInt32)), .val (.ref b1), .val (.ref b2), .val (.int (0 : Int32)), .unset]) rfl k) ?_
          show ownFin _ _ _ _ _ (T73.setTop (mkF m 115 #[.val (.int p1), .val (.int p2), .val (.int p3), .val (.long q1), .second, .val (.int nv), .val (.int qv), .val (.int (p2.toInt8.toInt32)), .val (.int (p3.toInt8.toInt32)), .val (.ref b1), .val (.ref b2), .val (.int (0 : Int32)), .unset] []))
          refine ownVia (fun _ k => XS.iload X73.here hx rfl (hb hby at_115) rfl k) ?_
          show ownFin _ _ _ _ _ (T73.setTop (mkF m 117 #[.val (.int p1), .val (.int p2), .val (.int p3), .val (.long q1), .second, .val (.int nv), .val (.int qv), .val (.int (p2.toInt8.toInt32)), .val (.int (p3.toInt8.toInt32)), .val (.ref b1), .val (.ref b2), .val (.int (0 : Int32)), .unset] [(.int nv)]))
          refine ownVia (fun _ k => XS.ifNo X73.here hx rfl (hb hby at_117) rfl ((if0 _ _).trans (tlt ((own_lti (by decide : (0 : Int32).toInt = 0) (by omega : nv.toInt = 2)).mpr (by decide))).2.2.2) k) ?_
          show ownFin _ _ _ _ _ (T73.setTop (mkF m 120 #[.val (.int p1), .val (.int p2), .val (.int p3), .val (.long q1), .second, .val (.int nv), .val (.int qv), .val (.int (p2.toInt8.toInt32)), .val (.int (p3.toInt8.toInt32)), .val (.ref b1), .val (.ref b2), .val (.int (0 : Int32)), .unset] []))
          refine ownVia (fun _ k => XS.aload X73.here hx rfl (hb hby at_120) rfl rfl k) ?_
          show ownFin _ _ _ _ _ (T73.setTop (mkF m 122 #[.val (.int p1), .val (.int p2), .val (.int p3), .val (.long q1), .second, .val (.int nv), .val (.int qv), .val (.int (p2.toInt8.toInt32)), .val (.int (p3.toInt8.toInt32)), .val (.ref b1), .val (.ref b2), .val (.int (0 : Int32)), .unset] [(.ref b1)]))
          refine ownVia (fun _ k => XS.iconst X73.here hx rfl (hb hby at_122) k) ?_
          show ownFin _ _ _ _ _ (T73.setTop (mkF m 123 #[.val (.int p1), .val (.int p2), .val (.int p3), .val (.long q1), .second, .val (.int nv), .val (.int qv), .val (.int (p2.toInt8.toInt32)), .val (.int (p3.toInt8.toInt32)), .val (.ref b1), .val (.ref b2), .val (.int (0 : Int32)), .unset] [(.int (0 : Int32)), (.ref b1)]))
          refine ownVia (fun _ k => XS.aload X73.here hx rfl (hb hby at_123) rfl rfl k) ?_
          show ownFin _ _ _ _ _ (T73.setTop (mkF m 125 #[.val (.int p1), .val (.int p2), .val (.int p3), .val (.long q1), .second, .val (.int nv), .val (.int qv), .val (.int (p2.toInt8.toInt32)), .val (.int (p3.toInt8.toInt32)), .val (.ref b1), .val (.ref b2), .val (.int (0 : Int32)), .unset] [(.ref b1), (.int (0 : Int32)), (.ref b1)]))
          refine ownVia (fun _ k => XS.iconst X73.here hx rfl (hb hby at_125) k) ?_
          show ownFin _ _ _ _ _ (T73.setTop (mkF m 126 #[.val (.int p1), .val (.int p2), .val (.int p3), .val (.long q1), .second, .val (.int nv), .val (.int qv), .val (.int (p2.toInt8.toInt32)), .val (.int (p3.toInt8.toInt32)), .val (.ref b1), .val (.ref b2), .val (.int (0 : Int32)), .unset] [(.int (0 : Int32)), (.ref b1), (.int (0 : Int32)), (.ref b1)]))
          refine ownBaload X73 hx hZ (rfl : T73.heap = T73.heap) A_b1 ⟨by decide, by decide⟩ (v := (.int (nar .byte (p2.toInt8.toInt32)))) rfl (hb hby at_126) ?_
          show ownFin _ _ _ _ _ (T73.setTop (mkF m 127 #[.val (.int p1), .val (.int p2), .val (.int p3), .val (.long q1), .second, .val (.int nv), .val (.int qv), .val (.int (p2.toInt8.toInt32)), .val (.int (p3.toInt8.toInt32)), .val (.ref b1), .val (.ref b2), .val (.int (0 : Int32)), .unset] [(.int (nar .byte (p2.toInt8.toInt32))), (.int (0 : Int32)), (.ref b1)]))
          refine ownVia (fun _ k => XS.iconst X73.here hx rfl (hb hby at_127) k) ?_
          show ownFin _ _ _ _ _ (T73.setTop (mkF m 128 #[.val (.int p1), .val (.int p2), .val (.int p3), .val (.long q1), .second, .val (.int nv), .val (.int qv), .val (.int (p2.toInt8.toInt32)), .val (.int (p3.toInt8.toInt32)), .val (.ref b1), .val (.ref b2), .val (.int (0 : Int32)), .unset] [(.int (-1 : Int32)), (.int (nar .byte (p2.toInt8.toInt32))), (.int (0 : Int32)), (.ref b1)]))
          refine ownVia (fun _ k => XS.ixor X73.here hx rfl (hb hby at_128) rfl k) ?_
          show ownFin _ _ _ _ _ (T73.setTop (mkF m 129 #[.val (.int p1), .val (.int p2), .val (.int p3), .val (.long q1), .second, .val (.int nv), .val (.int qv), .val (.int (p2.toInt8.toInt32)), .val (.int (p3.toInt8.toInt32)), .val (.ref b1), .val (.ref b2), .val (.int (0 : Int32)), .unset] [(.int ((nar .byte (p2.toInt8.toInt32)) ^^^ (-1 : Int32))), (.int (0 : Int32)), (.ref b1)]))
          refine ownVia (fun _ k => XS.i2b X73.here hx rfl (hb hby at_129) rfl k) ?_
          show ownFin _ _ _ _ _ (T73.setTop (mkF m 130 #[.val (.int p1), .val (.int p2), .val (.int p3), .val (.long q1), .second, .val (.int nv), .val (.int qv), .val (.int (p2.toInt8.toInt32)), .val (.int (p3.toInt8.toInt32)), .val (.ref b1), .val (.ref b2), .val (.int (0 : Int32)), .unset] [(.int (((nar .byte (p2.toInt8.toInt32)) ^^^ (-1 : Int32)).toInt8.toInt32)), (.int (0 : Int32)), (.ref b1)]))
          refine ownBastore X73 hx hZ (rfl : T73.heap = T73.heap) A_b1 ⟨by decide, by decide⟩ (0) (by decide) (Nat.le_of_ble_eq_true rfl) N73 ge_b1 (hb hby at_130) ?_
          intro T80 h80 L80 X80 e80 N80 W80 A_b1
          have E_b1 := E_b1.wr W80
          have E_b2 := E_b2.wr W80
          have A_b3 := A_b3.other W80 (Ne.symm ne_b1_b3)
          have E_b3 := E_b3.wr W80
          have A_b4 := A_b4.other W80 (Ne.symm ne_b1_b4)
          have E_b4 := E_b4.wr W80
          have F_b2_id := F_b2_id.other W80 (Or.inl (Ne.symm ne_b1_b2))
          have F_b2_acceptedMillis := F_b2_acceptedMillis.other W80 (Or.inl (Ne.symm ne_b1_b2))
          have F_b2_flags := F_b2_flags.other W80 (Or.inl (Ne.symm ne_b1_b2))
          have F_b2_quotaMarker := F_b2_quotaMarker.other W80 (Or.inl (Ne.symm ne_b1_b2))
          have A_c1 := A_c1.other W80 (Ne.symm ne_b1_c1)
          have E_c1 := E_c1.wr W80
          have A_c2 := A_c2.other W80 (Ne.symm ne_b1_c2)
          have Z0 := own_szW Z0 W80
          have O := O.wr W80 ge_b1
          have A_b1 : Arv Z h80 b1 k_b1 .byte (2 : Int32) [(.int (nar .byte (((nar .byte (p2.toInt8.toInt32)) ^^^ (-1 : Int32)).toInt8.toInt32))), (.int (nar .byte (p3.toInt8.toInt32)))] (.int (0 : Int32)) := A_b1
          show ownFin _ _ _ _ _ (T80.setTop (mkF m 131 #[.val (.int p1), .val (.int p2), .val (.int p3), .val (.long q1), .second, .val (.int nv), .val (.int qv), .val (.int (p2.toInt8.toInt32)), .val (.int (p3.toInt8.toInt32)), .val (.ref b1), .val (.ref b2), .val (.int (0 : Int32)), .unset] []))
          refine ownVia (fun _ k => XS.aload X80.here hx rfl (hb hby at_131) rfl rfl k) ?_
          show ownFin _ _ _ _ _ (T80.setTop (mkF m 133 #[.val (.int p1), .val (.int p2), .val (.int p3), .val (.long q1), .second, .val (.int nv), .val (.int qv), .val (.int (p2.toInt8.toInt32)), .val (.int (p3.toInt8.toInt32)), .val (.ref b1), .val (.ref b2), .val (.int (0 : Int32)), .unset] [(.ref b2)]))
          refine ownCallV X80 hx hZ hown (hw _ (List.mem_of_getElem? (i := 46) rfl)) (hw _ (List.mem_of_getElem? (i := 47) rfl)) (hw _ (List.mem_of_getElem? (i := 49) rfl)) (hw _ (List.mem_of_getElem? (i := 49) rfl)) (hw _ (List.mem_of_getElem? (i := 48) rfl)) (hw _ (List.mem_of_getElem? (i := 3) rfl)) (hw _ (List.mem_of_getElem? (i := 50) rfl)) (by decide) e80 E_b2 (own_not l Z a0 hw b2 h80 n0 c2 k_b1 (2 : Int32) ([(nar .byte (p2.toInt8.toInt32)), (nar .byte (p3.toInt8.toInt32))] : List Int32) Z0 F_b2_quotaMarker F_b2_flags A_c2 (by show (2 : Int32).toInt = ((2 : Nat) : Int); decide)) (by rw [hml]; rfl) [] [] (lenOf own_pd4 rfl) rfl rfl 0 rfl (hb hby at_133) (by decide) (by decide) (by decide) (by decide) ?_
          intro v81 T81 L81 X81 hq81
          obtain ⟨rfl, N81q, eq81⟩ := hq81
          have N81 := Fr.app N80 N81q
          have e81 : T81.heap = h80 := eq81
          show ownFin _ _ _ _ _ (T81.setTop (mkF m 136 #[.val (.int p1), .val (.int p2), .val (.int p3), .val (.long q1), .second, .val (.int nv), .val (.int qv), .val (.int (p2.toInt8.toInt32)), .val (.int (p3.toInt8.toInt32)), .val (.ref b1), .val (.ref b2), .val (.int (0 : Int32)), .unset] [(.int (own_nf ([(nar .byte (p2.toInt8.toInt32)), (nar .byte (p3.toInt8.toInt32))] : List Int32)))]))
          refine ownVia (fun _ k => XS.iload X81.here hx rfl (hb hby at_136) rfl k) ?_
          show ownFin _ _ _ _ _ (T81.setTop (mkF m 138 #[.val (.int p1), .val (.int p2), .val (.int p3), .val (.long q1), .second, .val (.int nv), .val (.int qv), .val (.int (p2.toInt8.toInt32)), .val (.int (p3.toInt8.toInt32)), .val (.ref b1), .val (.ref b2), .val (.int (0 : Int32)), .unset] [(.int (0 : Int32)), (.int (own_nf ([(nar .byte (p2.toInt8.toInt32)), (nar .byte (p3.toInt8.toInt32))] : List Int32)))]))
          refine ownVia (fun _ k => XS.icmpNo X81.here hx rfl (hb hby at_138) rfl (teq (own_nf0 (bs := ([(nar .byte (p2.toInt8.toInt32)), (nar .byte (p3.toInt8.toInt32))] : List Int32)) (fun z => hc74 ((own_b84 p2).mp z.2)))).2 k) ?_
          show ownFin _ _ _ _ _ (T81.setTop (mkF m 141 #[.val (.int p1), .val (.int p2), .val (.int p3), .val (.long q1), .second, .val (.int nv), .val (.int qv), .val (.int (p2.toInt8.toInt32)), .val (.int (p3.toInt8.toInt32)), .val (.ref b1), .val (.ref b2), .val (.int (0 : Int32)), .unset] []))
          refine ownVia (fun _ k => XS.iconst X81.here hx rfl (hb hby at_141) k) ?_
          show ownFin _ _ _ _ _ (T81.setTop (mkF m 142 #[.val (.int p1), .val (.int p2), .val (.int p3), .val (.long q1), .second, .val (.int nv), .val (.int qv), .val (.int (p2.toInt8.toInt32)), .val (.int (p3.toInt8.toInt32)), .val (.ref b1), .val (.ref b2), .val (.int (0 : Int32)), .unset] [(.int (1 : Int32))]))
          refine ownVia (fun _ k => XS.goto X81.here hx rfl (pc0 := 142) (pc' := 146) rfl (hb hby at_142) (by decide) (by decide) k) ?_
          show ownFin _ _ _ _ _ (T81.setTop (mkF m 146 #[.val (.int p1), .val (.int p2), .val (.int p3), .val (.long q1), .second, .val (.int nv), .val (.int qv), .val (.int (p2.toInt8.toInt32)), .val (.int (p3.toInt8.toInt32)), .val (.ref b1), .val (.ref b2), .val (.int (0 : Int32)), .unset] [(.int (1 : Int32))]))
          refine ownVia (fun _ k => XS.istore X81.here hx rfl (hb hby at_146) rfl (l' := #[.val (.int p1), .val (.int p2), .val (.int p3), .val (.long q1), .second, .val (.int nv), .val (.int qv), .val (.int (p2.toInt8.toInt32)), .val (.int (p3.toInt8.toInt32)), .val (.ref b1), .val (.ref b2), .val (.int (0 : Int32)), .val (.int (1 : Int32))]) rfl k) ?_
          show ownFin _ _ _ _ _ (T81.setTop (mkF m 148 #[.val (.int p1), .val (.int p2), .val (.int p3), .val (.long q1), .second, .val (.int nv), .val (.int qv), .val (.int (p2.toInt8.toInt32)), .val (.int (p3.toInt8.toInt32)), .val (.ref b1), .val (.ref b2), .val (.int (0 : Int32)), .val (.int (1 : Int32))] []))
          refine ownVia (fun _ k => XS.iload X81.here hx rfl (hb hby at_148) rfl k) ?_
          show ownFin _ _ _ _ _ (T81.setTop (mkF m 150 #[.val (.int p1), .val (.int p2), .val (.int p3), .val (.long q1), .second, .val (.int nv), .val (.int qv), .val (.int (p2.toInt8.toInt32)), .val (.int (p3.toInt8.toInt32)), .val (.ref b1), .val (.ref b2), .val (.int (0 : Int32)), .val (.int (1 : Int32))] [(.int qv)]))
          by_cases hc82 : qv = (0 : Int32)
          case pos =>
            have hc82I : qv.toInt = 0 := (own_eqi rfl (by decide)).mp hc82
            refine ownVia (fun _ k => XS.ifYes X81.here hx rfl (pc0 := 150) (pc' := 176) rfl (hb hby at_150) rfl ((if0 _ _).trans (teq hc82).1) (by decide) (by decide) k) ?_
            show ownFin _ _ _ _ _ (T81.setTop (mkF m 176 #[.val (.int p1), .val (.int p2), .val (.int p3), .val (.long q1), .second, .val (.int nv), .val (.int qv), .val (.int (p2.toInt8.toInt32)), .val (.int (p3.toInt8.toInt32)), .val (.ref b1), .val (.ref b2), .val (.int (0 : Int32)), .val (.int (1 : Int32))] []))
            refine ownVia (fun _ k => XS.iload X81.here hx rfl (hb hby at_176) rfl k) ?_
            show ownFin _ _ _ _ _ (T81.setTop (mkF m 178 #[.val (.int p1), .val (.int p2), .val (.int p3), .val (.long q1), .second, .val (.int nv), .val (.int qv), .val (.int (p2.toInt8.toInt32)), .val (.int (p3.toInt8.toInt32)), .val (.ref b1), .val (.ref b2), .val (.int (0 : Int32)), .val (.int (1 : Int32))] [(.int (1 : Int32))]))
            refine ownRetZ X81 hx hlk hret (hb hby at_178) (by decide) (by decide) (Or.inr rfl) ?_
            show (Q_own_law Z p1 p2 p3 q1 h0 n0 sN sE kN) (some (.int (1 : Int32))) T81.heap _
            rw [e81]
            exact ⟨rfl, N81⟩
          case neg =>
            have hc82I : ¬ qv.toInt = 0 := fun q => hc82 ((own_eqi rfl (by decide)).mpr q)
            refine ownVia (fun _ k => XS.ifNo X81.here hx rfl (hb hby at_150) rfl ((if0 _ _).trans (feq hc82).1) k) ?_
            show ownFin _ _ _ _ _ (T81.setTop (mkF m 153 #[.val (.int p1), .val (.int p2), .val (.int p3), .val (.long q1), .second, .val (.int nv), .val (.int qv), .val (.int (p2.toInt8.toInt32)), .val (.int (p3.toInt8.toInt32)), .val (.ref b1), .val (.ref b2), .val (.int (0 : Int32)), .val (.int (1 : Int32))] []))
            refine ownVia (fun _ k => XS.iload X81.here hx rfl (hb hby at_153) rfl k) ?_
            show ownFin _ _ _ _ _ (T81.setTop (mkF m 155 #[.val (.int p1), .val (.int p2), .val (.int p3), .val (.long q1), .second, .val (.int nv), .val (.int qv), .val (.int (p2.toInt8.toInt32)), .val (.int (p3.toInt8.toInt32)), .val (.ref b1), .val (.ref b2), .val (.int (0 : Int32)), .val (.int (1 : Int32))] [(.int (1 : Int32))]))
            refine ownVia (fun _ k => XS.ifNo X81.here hx rfl (hb hby at_155) rfl ((if0 _ _).trans (feq (by decide)).1) k) ?_
            show ownFin _ _ _ _ _ (T81.setTop (mkF m 158 #[.val (.int p1), .val (.int p2), .val (.int p3), .val (.long q1), .second, .val (.int nv), .val (.int qv), .val (.int (p2.toInt8.toInt32)), .val (.int (p3.toInt8.toInt32)), .val (.ref b1), .val (.ref b2), .val (.int (0 : Int32)), .val (.int (1 : Int32))] []))
            refine ownVia (fun _ k => XS.aload X81.here hx rfl (hb hby at_158) rfl rfl k) ?_
            show ownFin _ _ _ _ _ (T81.setTop (mkF m 160 #[.val (.int p1), .val (.int p2), .val (.int p3), .val (.long q1), .second, .val (.int nv), .val (.int qv), .val (.int (p2.toInt8.toInt32)), .val (.int (p3.toInt8.toInt32)), .val (.ref b1), .val (.ref b2), .val (.int (0 : Int32)), .val (.int (1 : Int32))] [(.ref b2)]))
            refine ownCallV X81 hx hZ hown (hw _ (List.mem_of_getElem? (i := 51) rfl)) (hw _ (List.mem_of_getElem? (i := 52) rfl)) (hw _ (List.mem_of_getElem? (i := 54) rfl)) (hw _ (List.mem_of_getElem? (i := 54) rfl)) (hw _ (List.mem_of_getElem? (i := 53) rfl)) (hw _ (List.mem_of_getElem? (i := 3) rfl)) (hw _ (List.mem_of_getElem? (i := 55) rfl)) (by decide) e81 E_b2 (own_qm l Z a0 hw b2 h80 n0 c1 sN sE k_b3 kN q1 (0 : Int32) (0 : Int32) [] [] 0 0 Z0 F_b2_id F_b2_acceptedMillis A_c1 E_c1 (by decide) (by decide) (S_N.ext O.2) (S_E.ext O.2) (A_sN.ext O.2) (E_sN.ext O.2) (by decide) (by decide)) (by rw [hml]; rfl) [] [] (lenOf own_pd5 rfl) rfl rfl 0 rfl (hb hby at_160) (by decide) (by decide) (by decide) (by decide) ?_
            intro v83 T83 L83 X83 hq83
            obtain ⟨d1, rfl, N83q, K83, sq83, E_d1, F_d1⟩ := hq83
            have Z0 := Nat.le_trans Z0 K83.1
            have O := O.keep K83 all0
            have N83 := Fr.app N81 N83q
            show ownFin _ _ _ _ _ (T83.setTop (mkF m 163 #[.val (.int p1), .val (.int p2), .val (.int p3), .val (.long q1), .second, .val (.int nv), .val (.int qv), .val (.int (p2.toInt8.toInt32)), .val (.int (p3.toInt8.toInt32)), .val (.ref b1), .val (.ref b2), .val (.int (0 : Int32)), .val (.int (1 : Int32))] [(.ref d1)]))
            refine ownCallV X83 hx hZ hown (hw _ (List.mem_of_getElem? (i := 46) rfl)) (hw _ (List.mem_of_getElem? (i := 47) rfl)) (hw _ (List.mem_of_getElem? (i := 49) rfl)) (hw _ (List.mem_of_getElem? (i := 49) rfl)) (hw _ (List.mem_of_getElem? (i := 48) rfl)) (hw _ (List.mem_of_getElem? (i := 3) rfl)) (hw _ (List.mem_of_getElem? (i := 50) rfl)) (by decide) (rfl : T83.heap = T83.heap) E_d1 (own_notq l Z a0 hw d1 T83.heap n0 Z0 F_d1) (by rw [hml]; rfl) [] [] (lenOf own_pd4 rfl) rfl rfl 0 rfl (hb hby at_163) (by decide) (by decide) (by decide) (by decide) ?_
            intro v84 T84 L84 X84 hq84
            obtain ⟨rfl, N84q, eq84⟩ := hq84
            have N84 := Fr.app N83 N84q
            have e84 : T84.heap = T83.heap := eq84
            show ownFin _ _ _ _ _ (T84.setTop (mkF m 166 #[.val (.int p1), .val (.int p2), .val (.int p3), .val (.long q1), .second, .val (.int nv), .val (.int qv), .val (.int (p2.toInt8.toInt32)), .val (.int (p3.toInt8.toInt32)), .val (.ref b1), .val (.ref b2), .val (.int (0 : Int32)), .val (.int (1 : Int32))] [(.int (0 : Int32))]))
            refine ownVia (fun _ k => XS.ifNo X84.here hx rfl (hb hby at_166) rfl ((if0 _ _).trans (teq rfl).2) k) ?_
            show ownFin _ _ _ _ _ (T84.setTop (mkF m 169 #[.val (.int p1), .val (.int p2), .val (.int p3), .val (.long q1), .second, .val (.int nv), .val (.int qv), .val (.int (p2.toInt8.toInt32)), .val (.int (p3.toInt8.toInt32)), .val (.ref b1), .val (.ref b2), .val (.int (0 : Int32)), .val (.int (1 : Int32))] []))
            refine ownVia (fun _ k => XS.iconst X84.here hx rfl (hb hby at_169) k) ?_
            show ownFin _ _ _ _ _ (T84.setTop (mkF m 170 #[.val (.int p1), .val (.int p2), .val (.int p3), .val (.long q1), .second, .val (.int nv), .val (.int qv), .val (.int (p2.toInt8.toInt32)), .val (.int (p3.toInt8.toInt32)), .val (.ref b1), .val (.ref b2), .val (.int (0 : Int32)), .val (.int (1 : Int32))] [(.int (1 : Int32))]))
            refine ownVia (fun _ k => XS.goto X84.here hx rfl (pc0 := 170) (pc' := 174) rfl (hb hby at_170) (by decide) (by decide) k) ?_
            show ownFin _ _ _ _ _ (T84.setTop (mkF m 174 #[.val (.int p1), .val (.int p2), .val (.int p3), .val (.long q1), .second, .val (.int nv), .val (.int qv), .val (.int (p2.toInt8.toInt32)), .val (.int (p3.toInt8.toInt32)), .val (.ref b1), .val (.ref b2), .val (.int (0 : Int32)), .val (.int (1 : Int32))] [(.int (1 : Int32))]))
            refine ownVia (fun _ k => XS.istore X84.here hx rfl (hb hby at_174) rfl (l' := #[.val (.int p1), .val (.int p2), .val (.int p3), .val (.long q1), .second, .val (.int nv), .val (.int qv), .val (.int (p2.toInt8.toInt32)), .val (.int (p3.toInt8.toInt32)), .val (.ref b1), .val (.ref b2), .val (.int (0 : Int32)), .val (.int (1 : Int32))]) rfl k) ?_
            show ownFin _ _ _ _ _ (T84.setTop (mkF m 176 #[.val (.int p1), .val (.int p2), .val (.int p3), .val (.long q1), .second, .val (.int nv), .val (.int qv), .val (.int (p2.toInt8.toInt32)), .val (.int (p3.toInt8.toInt32)), .val (.ref b1), .val (.ref b2), .val (.int (0 : Int32)), .val (.int (1 : Int32))] []))
            refine ownVia (fun _ k => XS.iload X84.here hx rfl (hb hby at_176) rfl k) ?_
            show ownFin _ _ _ _ _ (T84.setTop (mkF m 178 #[.val (.int p1), .val (.int p2), .val (.int p3), .val (.long q1), .second, .val (.int nv), .val (.int qv), .val (.int (p2.toInt8.toInt32)), .val (.int (p3.toInt8.toInt32)), .val (.ref b1), .val (.ref b2), .val (.int (0 : Int32)), .val (.int (1 : Int32))] [(.int (1 : Int32))]))
            refine ownRetZ X84 hx hlk hret (hb hby at_178) (by decide) (by decide) (Or.inr rfl) ?_
            show (Q_own_law Z p1 p2 p3 q1 h0 n0 sN sE kN) (some (.int (1 : Int32))) T84.heap _
            rw [e84]
            exact ⟨rfl, N84⟩
  by_cases hc85 : (p1 &&& (4 : Int32)) = (0 : Int32)
  case pos =>
    have hc85I : (p1 &&& (4 : Int32)).toInt = 0 := (own_eqi rfl (by decide)).mp hc85
    refine ownVia (fun _ k => XS.ifYes X0.here hx rfl (pc0 := 10) (pc' := 17) rfl (hb hby at_10) rfl ((if0 _ _).trans (teq hc85).1) (by decide) (by decide) k) ?_
    show ownFin _ _ _ _ _ (T0.setTop (mkF m 17 #[.val (.int p1), .val (.int p2), .val (.int p3), .val (.long q1), .second, .val (.int nv), .unset, .unset, .unset, .unset, .unset, .unset, .unset] []))
    refine ownVia (fun _ k => XS.iconst X0.here hx rfl (hb hby at_17) k) ?_
    show ownFin _ _ _ _ _ (T0.setTop (mkF m 18 #[.val (.int p1), .val (.int p2), .val (.int p3), .val (.long q1), .second, .val (.int nv), .unset, .unset, .unset, .unset, .unset, .unset, .unset] [(.int (0 : Int32))]))
    refine ownVia (fun _ k => XS.istore X0.here hx rfl (hb hby at_18) rfl (l' := #[.val (.int p1), .val (.int p2), .val (.int p3), .val (.long q1), .second, .val (.int nv), .val (.int (0 : Int32)), .unset, .unset, .unset, .unset, .unset, .unset]) rfl k) ?_
    show ownFin _ _ _ _ _ (T0.setTop (mkF m 20 #[.val (.int p1), .val (.int p2), .val (.int p3), .val (.long q1), .second, .val (.int nv), .val (.int (0 : Int32)), .unset, .unset, .unset, .unset, .unset, .unset] []))
    refine ownVia (fun _ k => XS.iloadN X0.here hx rfl (hb hby at_20) rfl k) ?_
    show ownFin _ _ _ _ _ (T0.setTop (mkF m 21 #[.val (.int p1), .val (.int p2), .val (.int p3), .val (.long q1), .second, .val (.int nv), .val (.int (0 : Int32)), .unset, .unset, .unset, .unset, .unset, .unset] [(.int p2)]))
    refine ownVia (fun _ k => XS.i2b X0.here hx rfl (hb hby at_21) rfl k) ?_
    show ownFin _ _ _ _ _ (T0.setTop (mkF m 22 #[.val (.int p1), .val (.int p2), .val (.int p3), .val (.long q1), .second, .val (.int nv), .val (.int (0 : Int32)), .unset, .unset, .unset, .unset, .unset, .unset] [(.int (p2.toInt8.toInt32))]))
    refine ownVia (fun _ k => XS.istore X0.here hx rfl (hb hby at_22) rfl (l' := #[.val (.int p1), .val (.int p2), .val (.int p3), .val (.long q1), .second, .val (.int nv), .val (.int (0 : Int32)), .val (.int (p2.toInt8.toInt32)), .unset, .unset, .unset, .unset, .unset]) rfl k) ?_
    show ownFin _ _ _ _ _ (T0.setTop (mkF m 24 #[.val (.int p1), .val (.int p2), .val (.int p3), .val (.long q1), .second, .val (.int nv), .val (.int (0 : Int32)), .val (.int (p2.toInt8.toInt32)), .unset, .unset, .unset, .unset, .unset] []))
    refine ownVia (fun _ k => XS.iloadN X0.here hx rfl (hb hby at_24) rfl k) ?_
    show ownFin _ _ _ _ _ (T0.setTop (mkF m 25 #[.val (.int p1), .val (.int p2), .val (.int p3), .val (.long q1), .second, .val (.int nv), .val (.int (0 : Int32)), .val (.int (p2.toInt8.toInt32)), .unset, .unset, .unset, .unset, .unset] [(.int p3)]))
    refine ownVia (fun _ k => XS.i2b X0.here hx rfl (hb hby at_25) rfl k) ?_
    show ownFin _ _ _ _ _ (T0.setTop (mkF m 26 #[.val (.int p1), .val (.int p2), .val (.int p3), .val (.long q1), .second, .val (.int nv), .val (.int (0 : Int32)), .val (.int (p2.toInt8.toInt32)), .unset, .unset, .unset, .unset, .unset] [(.int (p3.toInt8.toInt32))]))
    refine ownVia (fun _ k => XS.istore X0.here hx rfl (hb hby at_26) rfl (l' := #[.val (.int p1), .val (.int p2), .val (.int p3), .val (.long q1), .second, .val (.int nv), .val (.int (0 : Int32)), .val (.int (p2.toInt8.toInt32)), .val (.int (p3.toInt8.toInt32)), .unset, .unset, .unset, .unset]) rfl k) ?_
    show ownFin _ _ _ _ _ (T0.setTop (mkF m 28 #[.val (.int p1), .val (.int p2), .val (.int p3), .val (.long q1), .second, .val (.int nv), .val (.int (0 : Int32)), .val (.int (p2.toInt8.toInt32)), .val (.int (p3.toInt8.toInt32)), .unset, .unset, .unset, .unset] []))
    exact J28 _
  case neg =>
    have hc85I : ¬ (p1 &&& (4 : Int32)).toInt = 0 := fun q => hc85 ((own_eqi rfl (by decide)).mpr q)
    refine ownVia (fun _ k => XS.ifNo X0.here hx rfl (hb hby at_10) rfl ((if0 _ _).trans (feq hc85).1) k) ?_
    show ownFin _ _ _ _ _ (T0.setTop (mkF m 13 #[.val (.int p1), .val (.int p2), .val (.int p3), .val (.long q1), .second, .val (.int nv), .unset, .unset, .unset, .unset, .unset, .unset, .unset] []))
    refine ownVia (fun _ k => XS.iconst X0.here hx rfl (hb hby at_13) k) ?_
    show ownFin _ _ _ _ _ (T0.setTop (mkF m 14 #[.val (.int p1), .val (.int p2), .val (.int p3), .val (.long q1), .second, .val (.int nv), .unset, .unset, .unset, .unset, .unset, .unset, .unset] [(.int (1 : Int32))]))
    refine ownVia (fun _ k => XS.goto X0.here hx rfl (pc0 := 14) (pc' := 18) rfl (hb hby at_14) (by decide) (by decide) k) ?_
    show ownFin _ _ _ _ _ (T0.setTop (mkF m 18 #[.val (.int p1), .val (.int p2), .val (.int p3), .val (.long q1), .second, .val (.int nv), .unset, .unset, .unset, .unset, .unset, .unset, .unset] [(.int (1 : Int32))]))
    refine ownVia (fun _ k => XS.istore X0.here hx rfl (hb hby at_18) rfl (l' := #[.val (.int p1), .val (.int p2), .val (.int p3), .val (.long q1), .second, .val (.int nv), .val (.int (1 : Int32)), .unset, .unset, .unset, .unset, .unset, .unset]) rfl k) ?_
    show ownFin _ _ _ _ _ (T0.setTop (mkF m 20 #[.val (.int p1), .val (.int p2), .val (.int p3), .val (.long q1), .second, .val (.int nv), .val (.int (1 : Int32)), .unset, .unset, .unset, .unset, .unset, .unset] []))
    refine ownVia (fun _ k => XS.iloadN X0.here hx rfl (hb hby at_20) rfl k) ?_
    show ownFin _ _ _ _ _ (T0.setTop (mkF m 21 #[.val (.int p1), .val (.int p2), .val (.int p3), .val (.long q1), .second, .val (.int nv), .val (.int (1 : Int32)), .unset, .unset, .unset, .unset, .unset, .unset] [(.int p2)]))
    refine ownVia (fun _ k => XS.i2b X0.here hx rfl (hb hby at_21) rfl k) ?_
    show ownFin _ _ _ _ _ (T0.setTop (mkF m 22 #[.val (.int p1), .val (.int p2), .val (.int p3), .val (.long q1), .second, .val (.int nv), .val (.int (1 : Int32)), .unset, .unset, .unset, .unset, .unset, .unset] [(.int (p2.toInt8.toInt32))]))
    refine ownVia (fun _ k => XS.istore X0.here hx rfl (hb hby at_22) rfl (l' := #[.val (.int p1), .val (.int p2), .val (.int p3), .val (.long q1), .second, .val (.int nv), .val (.int (1 : Int32)), .val (.int (p2.toInt8.toInt32)), .unset, .unset, .unset, .unset, .unset]) rfl k) ?_
    show ownFin _ _ _ _ _ (T0.setTop (mkF m 24 #[.val (.int p1), .val (.int p2), .val (.int p3), .val (.long q1), .second, .val (.int nv), .val (.int (1 : Int32)), .val (.int (p2.toInt8.toInt32)), .unset, .unset, .unset, .unset, .unset] []))
    refine ownVia (fun _ k => XS.iloadN X0.here hx rfl (hb hby at_24) rfl k) ?_
    show ownFin _ _ _ _ _ (T0.setTop (mkF m 25 #[.val (.int p1), .val (.int p2), .val (.int p3), .val (.long q1), .second, .val (.int nv), .val (.int (1 : Int32)), .val (.int (p2.toInt8.toInt32)), .unset, .unset, .unset, .unset, .unset] [(.int p3)]))
    refine ownVia (fun _ k => XS.i2b X0.here hx rfl (hb hby at_25) rfl k) ?_
    show ownFin _ _ _ _ _ (T0.setTop (mkF m 26 #[.val (.int p1), .val (.int p2), .val (.int p3), .val (.long q1), .second, .val (.int nv), .val (.int (1 : Int32)), .val (.int (p2.toInt8.toInt32)), .unset, .unset, .unset, .unset, .unset] [(.int (p3.toInt8.toInt32))]))
    refine ownVia (fun _ k => XS.istore X0.here hx rfl (hb hby at_26) rfl (l' := #[.val (.int p1), .val (.int p2), .val (.int p3), .val (.long q1), .second, .val (.int nv), .val (.int (1 : Int32)), .val (.int (p2.toInt8.toInt32)), .val (.int (p3.toInt8.toInt32)), .unset, .unset, .unset, .unset]) rfl k) ?_
    show ownFin _ _ _ _ _ (T0.setTop (mkF m 28 #[.val (.int p1), .val (.int p2), .val (.int p3), .val (.long q1), .second, .val (.int nv), .val (.int (1 : Int32)), .val (.int (p2.toInt8.toInt32)), .val (.int (p3.toInt8.toInt32)), .unset, .unset, .unset, .unset] []))
    exact J28 _
set_option maxRecDepth 65536 in
set_option maxHeartbeats 40000000 in
theorem own_comes {Post : Tables → Env → Array Value → State → Outcome → State → Prop} (hpost : ∀ tb e args s v u, (limb_1_1.after args s (.returned v) u = true ∧ limb_1_2.after args s (.returned v) u = true ∧ True) → FrameEnd s (.returned v) u (Jvm.fieldLocs frame_1_writes args s ++ Jvm.arrayLocs frame_1_arrays args s ++ Jvm.staticLocs frame_1_statics s) 32 128 → Post tb e args s (.returned v) u) :
    ArmFor flags0 classFile x code maxLocals ret World_1 tables_1 room_1 Calls_1 rest_1 Pre_1 Post := by
  intro l hfl _ _ p e ha hc hk s m args below hf hA hF happ hP
  obtain ⟨hcalls, hrest, hpre⟩ := hP
  obtain ⟨-, -, -, hnamed, -, -, -, hat⟩ := (Spec.applies_iff hf).mp happ
  obtain ⟨hg, hn⟩ := and_e (Cond.before_iff.mp (show (Jvm.Cond.and given_1 narrow_1).before args s = true from hpre))
  obtain ⟨hcount, hg0⟩ := and_e hg
  obtain ⟨w0, w1, w2, w3, rfl⟩ : ∃ w0 w1 w2 w3 : Value, args = #[w0, w1, w2, w3] := by
    have hs : args.size = 4 := by simpa [Cond.value, given_1] using hcount
    obtain ⟨L⟩ := args
    match L, hs with
    | [w0, w1, w2, w3], _ => exact ⟨w0, w1, w2, w3, rfl⟩
  have hw := fun d (hd : d ∈ tables_1) => atoms_spec (ws := Jvm.Cond.code x code maxLocals ret :: tables_1) hat d (List.mem_cons_of_mem _ hd)
  have hfit : Fit s := fun {y c} hc i hi => by
    obtain ⟨ha, rfl⟩ := Array.getElem?_eq_some_iff.mp hc
    have q := List.all_eq_true.mp ((Array.all_eq_true_iff_forall_mem.mp hF) _ (Array.getElem_mem ha)) i (List.mem_range.mpr hi)
    simpa [Array.getElem?_eq_getElem hi] using q
  obtain ⟨hq0, hg1⟩ := and_e hg0
  obtain ⟨i0, ei0⟩ := is_v hq0
  obtain rfl : w0 = (.int i0) := Option.some.inj ei0
  obtain ⟨hq1, hg2⟩ := and_e hg1
  obtain ⟨i1, ei1⟩ := is_v hq1
  obtain rfl : w1 = (.int i1) := Option.some.inj ei1
  obtain ⟨hq2, hg3⟩ := and_e hg2
  obtain ⟨i2, ei2⟩ := is_v hq2
  obtain rfl : w2 = (.int i2) := Option.some.inj ei2
  obtain ⟨i3, ei3⟩ := isL_v hg3
  obtain rfl : w3 = (.long i3) := Option.some.inj ei3
  obtain ⟨m0, n0⟩ := and_e hn
  obtain ⟨m1, n1⟩ := and_e n0
  obtain ⟨m2, n2⟩ := and_e n1
  obtain ⟨sN, evN, S_N, E_sN⟩ := own_enum m1 (hw _ (List.mem_of_getElem? (i := 3) rfl)) (hw _ (List.mem_of_getElem? (i := 58) rfl))
  obtain ⟨sE, evE, S_E, -⟩ := own_enum n2 (hw _ (List.mem_of_getElem? (i := 3) rfl)) (hw _ (List.mem_of_getElem? (i := 60) rfl))
  obtain ⟨cN, A_N⟩ := Arr.start evN m0
  have hl := own_lenv evN A_N (own_eqv m2)
  have A_sN : Arv s s.heap sN cN.cls .byte (0 : Int32) [] (.int (0 : Int32)) := Arv.start hfit A_N hl.1 hl.2 (by decide) rfl trivial
  obtain ⟨n, o, h1, h2, h3, _, L, rfl, ⟨rfl, N⟩, hq⟩ := own_law l s _ hw tables_1 i0 i1 i2 i3 s.heap s.heap.size sN sE cN.cls (Nat.le_refl _) (Old.start s) S_N S_E A_sN E_sN p e ha hc hk s m _ below hf ((Spec.applies_iff_loose hf).mp happ).1 ⟨rfl, State.Warmed39.refl s, rfl⟩ trivial
  refine ⟨n, _, h1, h2, h3, hpost _ _ _ _ _ _ ⟨Cond.after_iff.mpr rfl, Cond.after_iff.mpr (eq_i res_at (Term.int_eval (1)) rfl), trivial⟩ ⟨hq.1, hq.2.1, (hq.2.2.sift fun y hy => Or.inr (N y hy)).mono (by decide) (by decide)⟩⟩
theorem main_1_1 : Claimed_1_1 := own_comes fun _ _ _ _ _ _ h hF => ⟨h.1, hF⟩
theorem main_1_2 : Claimed_1_2 := own_comes fun _ _ _ _ _ _ h hF => ⟨h.2.1, hF⟩
end Jvm.Pilot.@@N@@
namespace Jvm.Pilot.@@N@@
open Jvm Jvm.ClassFile Sem Op Lib Jvm.Free Jvm.Stand Jvm.Pilot.@@N@@.Jvm.D
/-! MADE BY PROGRAM (witnessworld.py) out of the Statement's table words and the real class files: 12 classes; the members and pool entries that the words name. The judged class is class 1, her method 1. -/
namespace start1
open Jvm.ClassFile
def u (s : String) : CpInfo := .utf8 (stringToUtf16 s)
/-- a pool by its gaps: so many unusable entries, then the entry; so many at the end -/
def gap : Nat → List CpInfo → List CpInfo
  | 0, r => r
  | n + 1, r => .unusable :: gap n r
def poolList (es : List (Nat × CpInfo)) (last : Nat) : List CpInfo := es.foldr (fun e r => gap e.1 (e.2 :: r)) (gap last [])
def pool (es : List (Nat × CpInfo)) (last : Nat) : Array CpInfo := ⟨poolList es last⟩
def fileOf (pool : Array CpInfo) (this : Nat) (attrs : Array Attribute := #[]) (ms : Array MethodInfo := #[]) (fl : Nat := 33) (sup : Nat := 0) (ifs : Array Nat := #[]) (fds : Array FieldInfo := #[]) : ClassFile where
  minorVersion := 0
  majorVersion := 65
  constantPool := pool
  accessFlags := fl
  thisClass := this
  superClass := sup
  interfaces := ifs
  fields := fds
  methods := ms
  attributes := attrs
def plain (name : String) (sup : Option ClassId) : Class where
  name := name
  kind := .ordinary
  loader := none
  accessFlags := 33
  super := sup
  interfaces := #[]
  cf := none
  fields := #[]
  methods := #[]
  instanceTypes := #[]
  staticTypes := #[]
  resolved := #[]
  callSites := []
  init := .initialized
  statics := none
  mirror := none

def pool0 : Array CpInfo := pool [(5, u "<init>"), (0, u "()V"), (1, .class_ 10), (1, u "java/lang/Object"), (85, u "clone"), (0, u "()Ljava/lang/Object;")] 26

def k0c0 : Code := { maxStack := 0, maxLocals := 1, code := object_method_1_code, exceptionTable := #[], attributes := #[] }
def k0m0 : Method := { name := "<init>", desc := "()V", sig := { parameters := [], returnType := none }, accessFlags := 1, code := some k0c0 }
def k0m1 : Method := { name := "clone", desc := "()Ljava/lang/Object;", sig := { parameters := [], returnType := some (.object "java/lang/Object") }, accessFlags := 260, code := none }
/-- java/lang/Object -/
def k0 : Class := { plain "java/lang/Object" none with
  accessFlags := 33
  interfaces := #[]
  cf := some (fileOf pool0 8 #[] #[{ accessFlags := 1, nameIndex := 5, descriptorIndex := 6, attributes := #[] }, { accessFlags := 260, nameIndex := 96, descriptorIndex := 97, attributes := #[] }] 33 0 #[] #[])
  fields := #[]
  methods := #[k0m0, k0m1]
  instanceTypes := #[]
  staticTypes := #[]
  resolved := Array.replicate 124 none
  statics := none }

def pool1 : Array CpInfo := pool [(2, .class_ 4), (1, u "java/lang/Object"), (0, u "<init>"), (0, u "()V"), (0, .class_ 8), (0, u "com/example/laiskas/laiskas/protocol/Message"), (0, .methodref 7 10), (0, .nameAndType 5 11), (0, u "([BJ[B[B)V"), (0, .methodref 7 13), (0, .nameAndType 14 15), (0, u "notifies"), (0, u "()Z"), (0, .methodref 7 17), (0, .nameAndType 18 19), (0, u "quotaMarker"), (0, u "()Lcom/example/laiskas/laiskas/protocol/Message;"), (0, .class_ 21), (0, u "com/example/laiskas/laiskas/protocol/MessageNotifiesPinLaw"), (2, u "law"), (0, u "(IIIJ)Z")] 5

def k1m0 : Method := { name := "<init>", desc := "()V", sig := { parameters := [], returnType := none }, accessFlags := 1, code := none }
def k1c1 : Code := { maxStack := 7, maxLocals := 13, code := code, exceptionTable := #[], attributes := #[] }
def k1m1 : Method := { name := "law", desc := "(IIIJ)Z", sig := { parameters := [.int, .int, .int, .long], returnType := some .boolean }, accessFlags := 9, code := some k1c1 }
/-- com/example/laiskas/laiskas/protocol/MessageNotifiesPinLaw -/
def k1 : Class := { plain "com/example/laiskas/laiskas/protocol/MessageNotifiesPinLaw" (some 0) with
  accessFlags := 49
  interfaces := #[]
  cf := some (fileOf pool1 20 #[] #[{ accessFlags := 1, nameIndex := 5, descriptorIndex := 6, attributes := #[] }, { accessFlags := 9, nameIndex := 24, descriptorIndex := 25, attributes := #[] }] 49 2 #[] #[])
  fields := #[]
  methods := #[k1m0, k1m1]
  instanceTypes := #[]
  staticTypes := #[]
  resolved := Array.replicate 31 none
  statics := none }

def pool2 : Array CpInfo := pool [(1, .class_ 2), (0, u "com/example/laiskas/laiskas/protocol/Message$Held"), (0, .methodref 4 5), (0, .class_ 6), (0, .nameAndType 7 8), (0, u "[B"), (0, u "clone"), (0, u "()Ljava/lang/Object;"), (0, .methodref 1 10), (0, .nameAndType 11 12), (0, u "<init>"), (0, u "([B)V"), (0, .methodref 14 15), (0, .class_ 16), (0, .nameAndType 11 17), (0, u "com/example/laiskas/laiskas/protocol/Message"), (0, u "([BJ[BLcom/example/laiskas/laiskas/protocol/Message$Body;Z)V"), (0, .methodref 19 20), (0, .class_ 21), (0, .nameAndType 11 22), (0, u "java/lang/Object"), (0, u "()V"), (0, .fieldref 14 24), (0, .nameAndType 25 6), (0, u "id"), (0, .fieldref 14 27), (0, .nameAndType 28 29), (0, u "acceptedMillis"), (0, u "J"), (0, .fieldref 14 31), (0, .nameAndType 32 6), (0, u "flags"), (0, .fieldref 14 34), (0, .nameAndType 35 36), (0, u "body"), (0, u "Lcom/example/laiskas/laiskas/protocol/Message$Body;"), (0, .fieldref 14 38), (0, .nameAndType 39 40), (0, u "quotaMarker"), (0, u "Z"), (0, .fieldref 14 42), (0, .nameAndType 43 6), (0, u "NONE"), (0, .fieldref 14 45), (0, .nameAndType 46 36), (0, u "EMPTY"), (11, u "QUOTA"), (17, .class_ 78), (1, u "com/example/laiskas/laiskas/protocol/Message$Body"), (45, u "([BJ[B[B)V"), (2, u "()Lcom/example/laiskas/laiskas/protocol/Message;"), (10, u "()Z"), (22, u "MAX_BODY"), (0, u "I"), (2, u "PADDED_BODY"), (1, u "PADDED_NOTIFICATION"), (1, u "MAX_FLAGS"), (6, u "notifies"), (12, .class_ 190), (0, u "com/example/laiskas/laiskas/protocol/Message$GoneException")] 18

def k2c0 : Code := { maxStack := 8, maxLocals := 6, code := prog_12_method_1_code, exceptionTable := #[], attributes := #[] }
def k2m0 : Method := { name := "<init>", desc := "([BJ[B[B)V", sig := { parameters := [(.array .byte), .long, (.array .byte), (.array .byte)], returnType := none }, accessFlags := 0, code := some k2c0 }
def k2c1 : Code := { maxStack := 3, maxLocals := 7, code := prog_12_method_3_code, exceptionTable := #[], attributes := #[] }
def k2m1 : Method := { name := "<init>", desc := "([BJ[BLcom/example/laiskas/laiskas/protocol/Message$Body;Z)V", sig := { parameters := [(.array .byte), .long, (.array .byte), (.object "com/example/laiskas/laiskas/protocol/Message$Body"), .boolean], returnType := none }, accessFlags := 2, code := some k2c1 }
def k2c2 : Code := { maxStack := 8, maxLocals := 1, code := prog_12_method_4_code, exceptionTable := #[], attributes := #[] }
def k2m2 : Method := { name := "quotaMarker", desc := "()Lcom/example/laiskas/laiskas/protocol/Message;", sig := { parameters := [], returnType := some (.object "com/example/laiskas/laiskas/protocol/Message") }, accessFlags := 1, code := some k2c2 }
def k2c3 : Code := { maxStack := 2, maxLocals := 1, code := prog_12_method_11_code, exceptionTable := #[], attributes := #[] }
def k2m3 : Method := { name := "notifies", desc := "()Z", sig := { parameters := [], returnType := some .boolean }, accessFlags := 1, code := some k2c3 }
/-- com/example/laiskas/laiskas/protocol/Message -/
def k2 : Class := { plain "com/example/laiskas/laiskas/protocol/Message" (some 0) with
  accessFlags := 49
  interfaces := #[]
  cf := some (fileOf pool2 14 #[.nestMembers #[1, 189, 76]] #[{ accessFlags := 0, nameIndex := 11, descriptorIndex := 124, attributes := #[] }, { accessFlags := 2, nameIndex := 11, descriptorIndex := 17, attributes := #[] }, { accessFlags := 1, nameIndex := 39, descriptorIndex := 127, attributes := #[] }, { accessFlags := 1, nameIndex := 176, descriptorIndex := 138, attributes := #[] }] 49 19 #[] #[{ accessFlags := 25, nameIndex := 161, descriptorIndex := 162, attributes := #[] }, { accessFlags := 26, nameIndex := 165, descriptorIndex := 162, attributes := #[] }, { accessFlags := 26, nameIndex := 167, descriptorIndex := 162, attributes := #[] }, { accessFlags := 26, nameIndex := 169, descriptorIndex := 162, attributes := #[] }, { accessFlags := 26, nameIndex := 43, descriptorIndex := 6, attributes := #[] }, { accessFlags := 26, nameIndex := 46, descriptorIndex := 36, attributes := #[] }, { accessFlags := 26, nameIndex := 58, descriptorIndex := 6, attributes := #[] }, { accessFlags := 18, nameIndex := 25, descriptorIndex := 6, attributes := #[] }, { accessFlags := 18, nameIndex := 28, descriptorIndex := 29, attributes := #[] }, { accessFlags := 18, nameIndex := 32, descriptorIndex := 6, attributes := #[] }, { accessFlags := 18, nameIndex := 35, descriptorIndex := 36, attributes := #[] }, { accessFlags := 18, nameIndex := 39, descriptorIndex := 40, attributes := #[] }])
  fields := #[{ name := "MAX_BODY", type := .int, accessFlags := 25, slot := 0, constantValue := 0 }, { name := "PADDED_BODY", type := .int, accessFlags := 26, slot := 1, constantValue := 0 }, { name := "PADDED_NOTIFICATION", type := .int, accessFlags := 26, slot := 2, constantValue := 0 }, { name := "MAX_FLAGS", type := .int, accessFlags := 26, slot := 3, constantValue := 0 }, { name := "NONE", type := (.array .byte), accessFlags := 26, slot := 4, constantValue := 0 }, { name := "EMPTY", type := (.object "com/example/laiskas/laiskas/protocol/Message$Body"), accessFlags := 26, slot := 5, constantValue := 0 }, { name := "QUOTA", type := (.array .byte), accessFlags := 26, slot := 6, constantValue := 0 }, { name := "id", type := (.array .byte), accessFlags := 18, slot := 0, constantValue := 0 }, { name := "acceptedMillis", type := .long, accessFlags := 18, slot := 1, constantValue := 0 }, { name := "flags", type := (.array .byte), accessFlags := 18, slot := 2, constantValue := 0 }, { name := "body", type := (.object "com/example/laiskas/laiskas/protocol/Message$Body"), accessFlags := 18, slot := 3, constantValue := 0 }, { name := "quotaMarker", type := .boolean, accessFlags := 18, slot := 4, constantValue := 0 }]
  methods := #[k2m0, k2m1, k2m2, k2m3]
  instanceTypes := #[(.array .byte), .long, (.array .byte), (.object "com/example/laiskas/laiskas/protocol/Message$Body"), .boolean]
  staticTypes := #[.int, .int, .int, .int, (.array .byte), (.object "com/example/laiskas/laiskas/protocol/Message$Body"), (.array .byte)]
  resolved := ((Array.replicate 209 none).setIfInBounds 1 (some (.cls 5))).setIfInBounds 9 (some (.method ⟨5, 0⟩))
  statics := some 0 }

def pool3 : Array CpInfo := pool [(1, .methodref 2 3), (0, .class_ 4), (0, .nameAndType 5 6), (0, u "java/lang/Object"), (0, u "<init>"), (0, u "()V"), (0, .class_ 8), (0, u "java/lang/Record")] 13

def k3c0 : Code := { maxStack := 1, maxLocals := 1, code := jdk_30_method_1_code, exceptionTable := #[], attributes := #[] }
def k3m0 : Method := { name := "<init>", desc := "()V", sig := { parameters := [], returnType := none }, accessFlags := 4, code := some k3c0 }
/-- java/lang/Record -/
def k3 : Class := { plain "java/lang/Record" (some 0) with
  accessFlags := 1057
  interfaces := #[]
  cf := some (fileOf pool3 7 #[] #[{ accessFlags := 4, nameIndex := 5, descriptorIndex := 6, attributes := #[] }] 1057 2 #[] #[])
  fields := #[]
  methods := #[k3m0]
  instanceTypes := #[]
  staticTypes := #[]
  resolved := Array.replicate 22 none
  statics := none }

def pool4 : Array CpInfo := pool [(1, .class_ 2), (0, u "com/example/laiskas/laiskas/protocol/Message$Body"), (0, .class_ 4), (0, u "java/lang/Object"), (8, .class_ 14), (0, u "com/example/laiskas/laiskas/protocol/Message")] 2

/-- com/example/laiskas/laiskas/protocol/Message$Body -/
def k4 : Class := { plain "com/example/laiskas/laiskas/protocol/Message$Body" (some 0) with
  accessFlags := 1537
  interfaces := #[]
  cf := some (fileOf pool4 1 #[.nestHost 13] #[] 1537 3 #[] #[])
  fields := #[]
  methods := #[]
  instanceTypes := #[]
  staticTypes := #[]
  resolved := Array.replicate 17 none
  statics := none }

def pool5 : Array CpInfo := pool [(1, .methodref 2 3), (0, .class_ 4), (0, .nameAndType 5 6), (0, u "java/lang/Record"), (0, u "<init>"), (0, u "()V"), (0, .fieldref 8 9), (0, .class_ 10), (0, .nameAndType 11 12), (0, u "com/example/laiskas/laiskas/protocol/Message$Held"), (0, u "bytes"), (0, u "[B"), (17, .class_ 31), (0, u "com/example/laiskas/laiskas/protocol/Message$Body"), (0, u "([B)V"), (11, .class_ 45), (0, u "com/example/laiskas/laiskas/protocol/Message")] 19

def k5c0 : Code := { maxStack := 2, maxLocals := 2, code := prog_15_method_1_code, exceptionTable := #[], attributes := #[] }
def k5m0 : Method := { name := "<init>", desc := "([B)V", sig := { parameters := [(.array .byte)], returnType := none }, accessFlags := 2, code := some k5c0 }
/-- com/example/laiskas/laiskas/protocol/Message$Held -/
def k5 : Class := { plain "com/example/laiskas/laiskas/protocol/Message$Held" (some 3) with
  accessFlags := 48
  interfaces := #[4]
  cf := some (fileOf pool5 8 #[.nestHost 44] #[{ accessFlags := 2, nameIndex := 5, descriptorIndex := 32, attributes := #[] }] 48 2 #[30] #[{ accessFlags := 18, nameIndex := 11, descriptorIndex := 12, attributes := #[] }])
  fields := #[{ name := "bytes", type := (.array .byte), accessFlags := 18, slot := 0, constantValue := 0 }]
  methods := #[k5m0]
  instanceTypes := #[(.array .byte)]
  staticTypes := #[]
  resolved := Array.replicate 65 none
  statics := none }

def pool6 : Array CpInfo := pool [(1, .class_ 2), (0, u "java/lang/Cloneable"), (0, .class_ 4), (0, u "java/lang/Object")] 2

/-- java/lang/Cloneable -/
def k6 : Class := { plain "java/lang/Cloneable" (some 0) with
  accessFlags := 1537
  interfaces := #[]
  cf := some (fileOf pool6 1 #[] #[] 1537 3 #[] #[])
  fields := #[]
  methods := #[]
  instanceTypes := #[]
  staticTypes := #[]
  resolved := Array.replicate 7 none
  statics := none }

def pool7 : Array CpInfo := pool [(1, u "java/io/Serializable"), (0, .class_ 1), (0, u "java/lang/Object"), (0, .class_ 3)] 3

/-- java/io/Serializable -/
def k7 : Class := { plain "java/io/Serializable" (some 0) with
  accessFlags := 1537
  interfaces := #[]
  cf := some (fileOf pool7 2 #[] #[] 1537 4 #[] #[])
  fields := #[]
  methods := #[]
  instanceTypes := #[]
  staticTypes := #[]
  resolved := Array.replicate 8 none
  statics := none }

/-- the primitive byte -/
def k8 : Class := { plain "byte" none with kind := .primitive 'B', accessFlags := 0x411 }
/-- [B -/
def k9 : Class := { plain "[B" (some 0) with kind := .array 8 .byte, interfaces := #[6, 7], accessFlags := 1041 }

/-- the primitive int -/
def k10 : Class := { plain "int" none with kind := .primitive 'I', accessFlags := 0x411 }
/-- [I -/
def k11 : Class := { plain "[I" (some 0) with kind := .array 10 .int, interfaces := #[6, 7], accessFlags := 1041 }

def heap : Heap := #[{ cls := 2, slots := #[.int 0, .int 0, .int 0, .int 0, .ref 1, .ref 2, .null], vm := .statics 2 },
  { cls := 9, slots := #[], vm := .none },
  { cls := 5, slots := #[.ref 1], vm := .none }]
def classes : Array Class := #[k0, k1, k2, k3, k4, k5, k6, k7, k8, k9, k10, k11]
def interned : List (Array UInt16 × Addr) := []
def slotsUsed : Nat := 8
def theMethod : MethodId := ⟨1, 1⟩
def args0 : Array Value := #[.int 5, .int 3, .int 4, .long 7]
def aboutOver (below : List Frame) : State where
  vm := { classes := classes, interned := interned.toArray }
  heap := heap
  slotsUsed := slotsUsed
  threads := #[{ frames := .invoking theMethod args0 :: below }]
def below0 : List Frame := [.native { method := ⟨0, 0⟩, args := #[] }]
def about1 : State := aboutOver below0
def p0 : Program := .bare "" "" ""
def e0 : Env := launch0.env 0 0 0
theorem w_frames : about1.frames = Frame.invoking theMethod args0 :: below0 := rfl
set_option maxRecDepth 65536 in
theorem w_args : argsFit about1.vm theMethod args0 = true := by decide +kernel
set_option maxRecDepth 65536 in
theorem w_heap : heapFits about1 = true := by decide +kernel
set_option maxRecDepth 65536 in
theorem w_runnable : about1.curStatus? = some .runnable := by decide +kernel
set_option maxRecDepth 65536 in
theorem w_alone : about1.alone = true := by decide +kernel
set_option maxRecDepth 65536 in
theorem w_named : about1.methodNamed? x = some theMethod := by decide +kernel
set_option maxRecDepth 65536 in
theorem w_hears : about1.hears theMethod below0 = true := by decide +kernel
set_option maxRecDepth 65536 in
theorem w_ripe : about1.ripe theMethod args0 below0 = true := by decide +kernel
theorem w_running : about1.status = .running := rfl
set_option maxRecDepth 65536 in
theorem w_room : about1.hasRoom e0.platform room_1 = true :=
  launch0.hasRoom_least _ room_1 (by decide +kernel) (by decide +kernel) (by decide +kernel) (by decide +kernel) (by decide +kernel) (by decide +kernel)
theorem allAtoms_all (ts : List Jvm.Cond) (a : Array Jvm.Value) (st : Jvm.State) : (allAtoms ts).before a st = ts.all (fun c => c.before a st) := by
  induction ts with
  | nil => rfl
  | cons c t ih =>
    show (Jvm.Cond.and c (allAtoms t)).before a st = _
    rw [Jvm.Cond.before_and, ih, List.all_cons]
def words1 : List Jvm.Cond := Jvm.Cond.code x code maxLocals ret :: tables_1
/-- a 'code' word, met by the world's own term for the bytes: nothing is compared byte by byte -/
theorem code_word {y : MethodName} {bytes : ByteArray} {mx : Nat} {rt : Option FieldType} {a : Array Value} {s : State} {m : MethodId} {meth : Method} {c : Code} (h1 : s.methodNamed? y = some m) (h2 : s.vm.method? m = some meth) (h3 : meth.code = some c) (h4 : c.code = bytes)
    (h5 : (c.maxLocals == mx && c.exceptionTable.isEmpty && decide (c.maxStack ≤ mostOperands) && decide (meth.sig.returnType = rt) && !meth.locks && decide (parseMethodDescriptor y.desc = some meth.sig)) = true) : (Jvm.Cond.code y bytes mx rt).before a s = true := by
  simp only [Bool.and_eq_true, beq_iff_eq, Bool.not_eq_true', decide_eq_true_eq] at h5
  obtain ⟨⟨⟨⟨⟨g1, g2⟩, g3⟩, g4⟩, g5⟩, g6⟩ := h5
  simp [Cond.before, Cond.holds, Cond.value, h1, h2, h3, h4, g1, g2, g3, g4, g5, g6]
def isCode : Jvm.Cond → Bool
  | .code _ _ _ _ => true
  | _ => false
theorem all_split {L : List Jvm.Cond} {P : Jvm.Cond → Bool} (h1 : L.all (fun c => isCode c || P c) = true) (h2 : ∀ c ∈ L.filter isCode, P c = true) : L.all P = true := by
  refine List.all_eq_true.mpr fun c hc => ?_
  have h := List.all_eq_true.mp h1 c hc
  rcases Bool.eq_false_or_eq_true (isCode c) with hi | hi
  · exact h2 c (List.mem_filter.mpr ⟨hc, hi⟩)
  · simpa [hi] using h
set_option maxRecDepth 65536 in
theorem w_c0 : (Jvm.Cond.code x code maxLocals ret).before args0 about1 = true := code_word (m := ⟨1, 1⟩) (meth := k1m1) (c := k1c1) (by decide +kernel) rfl rfl rfl (by decide +kernel)
set_option maxRecDepth 65536 in
theorem w_c1 : (Jvm.Cond.code ({ cls := "com/example/laiskas/laiskas/protocol/Message", name := "<init>", desc := "([BJ[B[B)V" } : Jvm.MethodName) prog_12_method_1_code (6 : Nat) (Option.none : Option Jvm.ClassFile.FieldType)).before args0 about1 = true := code_word (m := ⟨2, 0⟩) (meth := k2m0) (c := k2c0) (by decide +kernel) rfl rfl rfl (by decide +kernel)
set_option maxRecDepth 65536 in
theorem w_c2 : (Jvm.Cond.code ({ cls := "com/example/laiskas/laiskas/protocol/Message$Held", name := "<init>", desc := "([B)V" } : Jvm.MethodName) prog_15_method_1_code (2 : Nat) (Option.none : Option Jvm.ClassFile.FieldType)).before args0 about1 = true := code_word (m := ⟨5, 0⟩) (meth := k5m0) (c := k5c0) (by decide +kernel) rfl rfl rfl (by decide +kernel)
set_option maxRecDepth 65536 in
theorem w_c3 : (Jvm.Cond.code ({ cls := "java/lang/Record", name := "<init>", desc := "()V" } : Jvm.MethodName) jdk_30_method_1_code (1 : Nat) (Option.none : Option Jvm.ClassFile.FieldType)).before args0 about1 = true := code_word (m := ⟨3, 0⟩) (meth := k3m0) (c := k3c0) (by decide +kernel) rfl rfl rfl (by decide +kernel)
set_option maxRecDepth 65536 in
theorem w_c4 : (Jvm.Cond.code ({ cls := "java/lang/Object", name := "<init>", desc := "()V" } : Jvm.MethodName) object_method_1_code (1 : Nat) (Option.none : Option Jvm.ClassFile.FieldType)).before args0 about1 = true := code_word (m := ⟨0, 0⟩) (meth := k0m0) (c := k0c0) (by decide +kernel) rfl rfl rfl (by decide +kernel)
set_option maxRecDepth 65536 in
theorem w_c5 : (Jvm.Cond.code ({ cls := "com/example/laiskas/laiskas/protocol/Message", name := "<init>", desc := "([BJ[BLcom/example/laiskas/laiskas/protocol/Message$Body;Z)V" } : Jvm.MethodName) prog_12_method_3_code (7 : Nat) (Option.none : Option Jvm.ClassFile.FieldType)).before args0 about1 = true := code_word (m := ⟨2, 1⟩) (meth := k2m1) (c := k2c1) (by decide +kernel) rfl rfl rfl (by decide +kernel)
set_option maxRecDepth 65536 in
theorem w_c6 : (Jvm.Cond.code ({ cls := "com/example/laiskas/laiskas/protocol/Message", name := "notifies", desc := "()Z" } : Jvm.MethodName) prog_12_method_11_code (1 : Nat) (Option.some Jvm.ClassFile.FieldType.boolean)).before args0 about1 = true := code_word (m := ⟨2, 3⟩) (meth := k2m3) (c := k2c3) (by decide +kernel) rfl rfl rfl (by decide +kernel)
set_option maxRecDepth 65536 in
theorem w_c7 : (Jvm.Cond.code ({ cls := "com/example/laiskas/laiskas/protocol/Message", name := "quotaMarker", desc := "()Lcom/example/laiskas/laiskas/protocol/Message;" } : Jvm.MethodName) prog_12_method_4_code (1 : Nat) (Option.some (Jvm.ClassFile.FieldType.object "com/example/laiskas/laiskas/protocol/Message"))).before args0 about1 = true := code_word (m := ⟨2, 2⟩) (meth := k2m2) (c := k2c2) (by decide +kernel) rfl rfl rfl (by decide +kernel)
def codes1 : List Jvm.Cond := [Jvm.Cond.code x code maxLocals ret, Jvm.Cond.code ({ cls := "com/example/laiskas/laiskas/protocol/Message", name := "<init>", desc := "([BJ[B[B)V" } : Jvm.MethodName) prog_12_method_1_code (6 : Nat) (Option.none : Option Jvm.ClassFile.FieldType), Jvm.Cond.code ({ cls := "com/example/laiskas/laiskas/protocol/Message$Held", name := "<init>", desc := "([B)V" } : Jvm.MethodName) prog_15_method_1_code (2 : Nat) (Option.none : Option Jvm.ClassFile.FieldType), Jvm.Cond.code ({ cls := "java/lang/Record", name := "<init>", desc := "()V" } : Jvm.MethodName) jdk_30_method_1_code (1 : Nat) (Option.none : Option Jvm.ClassFile.FieldType), Jvm.Cond.code ({ cls := "java/lang/Object", name := "<init>", desc := "()V" } : Jvm.MethodName) object_method_1_code (1 : Nat) (Option.none : Option Jvm.ClassFile.FieldType), Jvm.Cond.code ({ cls := "com/example/laiskas/laiskas/protocol/Message", name := "<init>", desc := "([BJ[BLcom/example/laiskas/laiskas/protocol/Message$Body;Z)V" } : Jvm.MethodName) prog_12_method_3_code (7 : Nat) (Option.none : Option Jvm.ClassFile.FieldType), Jvm.Cond.code ({ cls := "com/example/laiskas/laiskas/protocol/Message", name := "notifies", desc := "()Z" } : Jvm.MethodName) prog_12_method_11_code (1 : Nat) (Option.some Jvm.ClassFile.FieldType.boolean), Jvm.Cond.code ({ cls := "com/example/laiskas/laiskas/protocol/Message", name := "quotaMarker", desc := "()Lcom/example/laiskas/laiskas/protocol/Message;" } : Jvm.MethodName) prog_12_method_4_code (1 : Nat) (Option.some (Jvm.ClassFile.FieldType.object "com/example/laiskas/laiskas/protocol/Message"))]
set_option maxRecDepth 65536 in
theorem codes_eq : words1.filter isCode = codes1 := rfl
theorem w_codes : ∀ c ∈ words1.filter isCode, c.before args0 about1 = true := by
  rw [codes_eq]
  intro c hc
  simp only [codes1, List.mem_cons, List.not_mem_nil, or_false] at hc
  rcases hc with rfl | rfl | rfl | rfl | rfl | rfl | rfl | rfl
  · exact w_c0
  · exact w_c1
  · exact w_c2
  · exact w_c3
  · exact w_c4
  · exact w_c5
  · exact w_c6
  · exact w_c7
set_option maxRecDepth 65536 in
theorem w_t1 : (words1.take 24).all (fun c => isCode c || c.before args0 about1) = true := by decide +kernel
set_option maxRecDepth 65536 in
theorem w_t2 : ((words1.drop 24).take 24).all (fun c => isCode c || c.before args0 about1) = true := by decide +kernel
set_option maxRecDepth 65536 in
theorem w_t3 : ((words1.drop 24).drop 24).all (fun c => isCode c || c.before args0 about1) = true := by decide +kernel
theorem w_tables : (allAtoms (Jvm.Cond.code x code maxLocals ret :: tables_1)).before args0 about1 = true := by
  rw [allAtoms_all]
  show words1.all (fun c => c.before args0 about1) = true
  refine all_split ?_ w_codes
  rw [← List.take_append_drop 24 words1, List.all_append, w_t1, ← List.take_append_drop 24 (words1.drop 24), List.all_append, w_t2, w_t3]
  rfl
set_option maxRecDepth 65536 in
theorem w_case : (Jvm.Cond.and given_1 narrow_1).before args0 about1 = true := by decide +kernel
theorem w_applies : (headSpec (Jvm.Cond.code x code maxLocals ret :: tables_1) room_1).applies x e0.platform about1 = true :=
  (Spec.applies_iff w_frames).mpr ⟨w_running, w_runnable, w_alone, w_named, w_hears, w_ripe, w_room, w_tables⟩
theorem atStart : AtStart classFile x code maxLocals ret World_1 tables_1 room_1 Calls_1 rest_1 Pre_1 launch0 p0 e0 about1 theMethod args0 below0 :=
  ⟨lists_1, trivial, launch0.admits_env _ _ _, launch0.least_env, fairChoices_fair.cas, fairChoices_fair.clock, w_frames, w_args, w_heap, w_applies, trivial, trivial, w_case⟩
end start1
theorem witness_1 : WitnessClaimed_1 := ⟨start1.p0, start1.e0, start1.about1, start1.theMethod, start1.args0, start1.below0, start1.atStart⟩
end Jvm.Pilot.@@N@@
