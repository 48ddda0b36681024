import JvmDerived
import JvmDerived.Pilot.@@N@@Statement
import JvmDerived.Pilot.@@N@@Code
set_option linter.unusedVariables false
set_option linter.unusedSimpArgs false
namespace Jvm.Pilot.@@N@@
open Jvm Jvm.ClassFile Sem Op Lib Jvm.Free Jvm.Stand Jvm.LawKit Jvm.RoadKit Bundle Jvm.Pilot.@@N@@.Jvm.D
section Own
variable {p : Program} {l : Launch} {e : Env} {R : Room} {s : State} {m : MethodId} {args : Array Value} {below : List Frame} {meth : Method} {c : Code} {T : State} {locs : List Loc} {cells slots : Nat} {Z : State} {a0 : Array Value} {h : Heap} {Q : Option Value → Heap → List Loc → Prop} {C S : Nat} {u u' : State} {F : Outcome → State → List Loc → Prop}
/-- from u the invocation comes to its end, and Q holds of what it returns, of the heap and of the places written -/
def ownFin (p : Program) (e : Env) (below : List Frame) (F : Outcome → State → List Loc → Prop) (Q : Option Value → Heap → List Loc → Prop) (u : State) : Prop :=
  ∃ t o, Steps p.tables e below u t ∧ t.status = .running ∧ Ended t below o ∧ ∃ v L, o = .returned v ∧ Q v t.heap L ∧ F o t L
/-- how it ends: at most C new cells of S slots, the tables warmer, nothing old written but at the places L -/
def ownFE (s : State) (C S : Nat) : Outcome → State → List Loc → Prop := fun o t L => FrameEnd s o t L C S
theorem ownVia (f : ∀ t, Steps p.tables e below u' t → Steps p.tables e below u t) (k : ownFin p e below F Q u') : ownFin p e below F Q u := by
  obtain ⟨t, o, h1, r⟩ := k
  exact ⟨t, o, f t h1, r⟩
theorem ownRet (X : Stand p l e R s m args below meth c T locs cells slots) (hlk : meth.locks = false) {v : Option Value} (hv : meth.sig.returnType = none → v = none)
    (f : ∀ fs, (∀ (f : JFrame) (acts : List Action), f.method = m → f.locked = none → f.entered = [] → (doReturn e (T.setTop f) acts v).1 = T.setFrames fs) → Steps p.tables e below u (T.setFrames fs))
    (hC : cells ≤ C) (hS : slots ≤ S) (hQ : Q v T.heap locs) : ownFin p e below (ownFE s C S) Q u := by
  obtain ⟨fs, hr, hrun, hended, hW, hsame⟩ := X.leave (v := v) hv hlk
  exact ⟨_, _, f fs hr, hrun, hended, v, _, rfl, hQ, ⟨_, rfl⟩, hW, hsame.mono hC hS⟩
theorem ownRetI (X : Stand p l e R s m args below meth c T locs cells slots) (hx : p.tables.exec = Jvm.exec) (hlk : meth.locks = false) (hret : meth.sig.returnType = some .int) {pc : Nat} {Ls : Array Slot} {z : Int32} {rest : List Value} (hd : decode c.code pc = .ok (.ireturn, 1)) (hC : cells ≤ C) (hS : slots ≤ S) (hQ : Q (some (.int z)) T.heap locs) : ownFin p e below (ownFE s C S) Q (T.setTop (mkF m pc Ls (.int z :: rest))) :=
  ownRet X hlk (v := some (.int z)) (fun q => by rw [hret] at q; cases q) (fun fs hr => retOut X hx hret rfl (Or.inl ⟨rfl, Or.inl rfl, z, rfl⟩) hd hr) hC hS hQ
theorem ownRetZ (X : Stand p l e R s m args below meth c T locs cells slots) (hx : p.tables.exec = Jvm.exec) (hlk : meth.locks = false) (hret : meth.sig.returnType = some .boolean) {pc : Nat} {Ls : Array Slot} {z : Int32} {rest : List Value} (hd : decode c.code pc = .ok (.ireturn, 1)) (hC : cells ≤ C) (hS : slots ≤ S) (hz : z = 0 ∨ z = 1) (hQ : Q (some (.int z)) T.heap locs) : ownFin p e below (ownFE s C S) Q (T.setTop (mkF m pc Ls (.int z :: rest))) :=
  ownRet X hlk (v := some (.int z)) (fun q => by rw [hret] at q; cases q) (fun fs hr => retOut X hx hret (by rcases hz with rfl | rfl <;> rfl) (Or.inl ⟨rfl, Or.inr (Or.inl rfl), z, rfl⟩) hd hr) hC hS hQ
theorem ownRetJ (X : Stand p l e R s m args below meth c T locs cells slots) (hx : p.tables.exec = Jvm.exec) (hlk : meth.locks = false) (hret : meth.sig.returnType = some .long) {pc : Nat} {Ls : Array Slot} {z : Int64} {rest : List Value} (hd : decode c.code pc = .ok (.lreturn, 1)) (hC : cells ≤ C) (hS : slots ≤ S) (hQ : Q (some (.long z)) T.heap locs) : ownFin p e below (ownFE s C S) Q (T.setTop (mkF m pc Ls (.long z :: rest))) :=
  ownRet X hlk (v := some (.long z)) (fun q => by rw [hret] at q; cases q) (fun fs hr => retOut X hx hret rfl (Or.inr (Or.inl ⟨rfl, rfl, z, rfl⟩)) hd hr) hC hS hQ
theorem ownRetA (X : Stand p l e R s m args below meth c T locs cells slots) (hx : p.tables.exec = Jvm.exec) (hlk : meth.locks = false) {ty : FieldType} (hret : meth.sig.returnType = some ty) (hty : ty.isReference = true) {pc : Nat} {Ls : Array Slot} {a : Addr} {rest : List Value} (hd : decode c.code pc = .ok (.areturn, 1)) (hC : cells ≤ C) (hS : slots ≤ S) (hQ : Q (some (.ref a)) T.heap locs) : ownFin p e below (ownFE s C S) Q (T.setTop (mkF m pc Ls (.ref a :: rest))) :=
  ownRet X hlk (v := some (.ref a)) (fun q => by rw [hret] at q; cases q) (fun fs hr => retOut X hx hret (by cases ty <;> first | rfl | cases hty) (Or.inr (Or.inr (Or.inr (Or.inr ⟨rfl, hty, rfl⟩)))) hd hr) hC hS hQ
theorem ownRetV (X : Stand p l e R s m args below meth c T locs cells slots) (hx : p.tables.exec = Jvm.exec) (hlk : meth.locks = false) (hret : meth.sig.returnType = none) {pc : Nat} {Ls : Array Slot} (hd : decode c.code pc = .ok (.return_, 1)) (hC : cells ≤ C) (hS : slots ≤ S) (hQ : Q none T.heap locs) : ownFin p e below (ownFE s C S) Q (T.setTop (mkF m pc Ls [])) :=
  ownRet X hlk (v := none) (fun _ => rfl) (fun fs hr => X.returnOut hx hret hd hr) hC hS hQ
/-- the contract of a method at given arguments and a given heap -/
abbrev ownMet (l : Launch) (Z : State) (y : MethodName) (bytes : ByteArray) (maxL : Nat) (ret : Option FieldType) (ws : List Jvm.Cond) (rm : Room) (as' : Array Value) (h0 : Heap) (Q : Option Value → Heap → List Loc → Prop) : Prop :=
  MetFree l y (head1 (Jvm.Cond.code y bytes maxL ret :: ws) rm) (fun a U => a = as' ∧ Z.Warmed39 U.vm ∧ U.heap = h0) (fun _ _ _ _ _ => True) (fun _ U o U' => ∃ v L, o = .returned v ∧ Q v U'.heap L ∧ FrameEnd U o U' L rm.cells rm.slots)
theorem ownBody {y : MethodName} {bytes : ByteArray} {maxL : Nat} {ret : Option FieldType} {ws : List Jvm.Cond} {rm : Room} {as' : Array Value} {h0 : Heap} (hpl : plainFor y = true)
    (H : ∀ (p : Program) (e : Env) (s : State) (m : MethodId) (below : List Frame) (meth : Method) (c : Code) (T : State), p.tables.exec = Jvm.exec → c.code = bytes → c.maxLocals = maxL → meth.sig.returnType = ret → meth.locks = false → Z.Warmed39 s.vm → s.vm.findClass y.cls = some m.cls → meth.name = y.name →
      Stand p l e rm s m as' below meth c T [] 0 0 → T.heap = h0 → ownFin p e below (ownFE s rm.cells rm.slots) Q (T.setTop (entryFrame m as' maxL))) : ownMet l Z y bytes maxL ret ws rm as' h0 Q := by
  refine MetFree.of_bodySF hpl hisR ?_
  intro p e s m args below meth c s₁ Bd hml0 hP hK
  obtain ⟨rfl, hZ, hh⟩ := hP
  exact H p e s m below meth c s₁ Bd.exec Bd.bytes hml0 Bd.returns Bd.notSynchronized hZ (findClass_of_methodNamed Bd.named) (name_of_methodNamed Bd.named Bd.method).1 (Stand.of_body Bd) (by rw [← hh, Bd.state]; rfl)
theorem ownCallS {own : String} {index : Nat} {y : MethodName} {bytes : ByteArray} {maxL : Nat} {ret : Option FieldType} {rm : Room} {as' : Array Value} {Q' : Option Value → Heap → List Loc → Prop}
    (X : Stand p l e R s m args below meth c T locs cells slots) (hx : p.tables.exec = Jvm.exec) (hZ : Z.Warmed39 s.vm) (hown : s.vm.findClass own = some m.cls)
    (w1 : (Jvm.Cond.methodLink own index y).before a0 Z = true) (w2 : (Jvm.Cond.static y).before a0 Z = true) (w3 : (Jvm.Cond.initialized y.cls).before a0 Z = true) (w4 : (Jvm.Cond.code y bytes maxL ret).before a0 Z = true)
    (hy : y.cls ≠ "java/lang/invoke/MethodHandle" ∧ y.cls ≠ "java/lang/invoke/VarHandle") (eT : T.heap = h) (hM : ownMet l Z y bytes maxL ret [] rm as' h Q')
    {pc : Nat} {Ls : Array Slot} {st : List Value} (hsz : Ls.size = c.maxLocals) (argsL rest : List Value) (hlen : ∀ sig, parseMethodDescriptor y.desc = some sig → argsL.length = sig.parameters.length)
    (hst : st = argsL.reverse ++ rest) (has : argsL.toArray = as') (W : Nat) (hW : (rest.map fun v => v.category).sum = W) (hd : decode c.code pc = .ok (.invokestatic index, 3))
    (hfr : rm.frames + 1 ≤ R.frames) (hlo : W + (maxL + 11) + rm.locals ≤ R.locals) (hce : cells + rm.cells ≤ R.cells) (hsl : slots + rm.slots ≤ R.slots)
    (K : ∀ v T' L', Stand p l e R s m args below meth c T' (locs ++ L') (cells + rm.cells) (slots + rm.slots) → Q' v T'.heap L' → ownFin p e below F Q (T'.setTop (mkF m (pc + 3) Ls (v.toList ++ rest)))) :
    ownFin p e below F Q (T.setTop (mkF m pc Ls st)) := by
  obtain ⟨v, _, ⟨T2, L2, k2, n2⟩, -, X2, ⟨Lc2, hQ2, l2, y2, z2⟩, st2⟩ := Jvm.LawKit.callS X hx (y := y) hown (mvT hZ w1) (mvT hZ w2) (mvT hZ w3) (mvT hZ w4) hy (backOf (W := W) hM hZ w4 w3 hfr hlo) (g := mkF m pc Ls st) rfl hsz (argsL := argsL) (rest := rest) hlen hst (by show 2 * 0 + _ ≤ _; omega) hd (fun _ _ => ⟨has, eT, hce, hsl⟩)
  dsimp only [Pt.U, Pt.locs, Pt.cells, Pt.slots] at X2 l2 y2 z2 st2 hQ2
  subst l2 y2 z2
  exact ownVia st2 (K v T2 Lc2 X2 hQ2)
theorem ownCallN {own : String} {index : Nat} {y : MethodName} {bytes : ByteArray} {maxL : Nat} {rm : Room} {as' : Array Value} {Q' : Option Value → Heap → List Loc → Prop}
    (X : Stand p l e R s m args below meth c T locs cells slots) (hx : p.tables.exec = Jvm.exec) (hZ : Z.Warmed39 s.vm) (hown : s.vm.findClass own = some m.cls) (hy1 : y.name = "<init>")
    (w1 : (Jvm.Cond.methodLink own index y).before a0 Z = true) (w2 : (Jvm.Cond.instanceMethod y).before a0 Z = true) (w3 : (Jvm.Cond.initialized y.cls).before a0 Z = true) (w4 : (Jvm.Cond.code y bytes maxL none).before a0 Z = true)
    (hy : y.cls ≠ "java/lang/invoke/MethodHandle" ∧ y.cls ≠ "java/lang/invoke/VarHandle") (eT : T.heap = h) (hM : ownMet l Z y bytes maxL none [] rm as' h Q')
    {pc : Nat} {Ls : Array Slot} {st : List Value} (hsz : Ls.size = c.maxLocals) (a : Addr) (argsL rest : List Value) (hlen : ∀ sig, parseMethodDescriptor y.desc = some sig → argsL.length = sig.parameters.length)
    (hst : st = argsL.reverse ++ .ref a :: rest) (has : (Value.ref a :: argsL).toArray = as') (W : Nat) (hW : (rest.map fun v => v.category).sum = W) (hd : decode c.code pc = .ok (.invokespecial index, 3))
    (hfr : rm.frames + 1 ≤ R.frames) (hlo : W + (maxL + 11) + rm.locals ≤ R.locals) (hce : cells + rm.cells ≤ R.cells) (hsl : slots + rm.slots ≤ R.slots)
    (K : ∀ v T' L', Stand p l e R s m args below meth c T' (locs ++ L') (cells + rm.cells) (slots + rm.slots) → Q' v T'.heap L' → ownFin p e below F Q (T'.setTop (mkF m (pc + 3) Ls (v.toList ++ rest)))) :
    ownFin p e below F Q (T.setTop (mkF m pc Ls st)) := by
  obtain ⟨v, _, ⟨T2, L2, k2, n2⟩, -, X2, ⟨Lc2, hQ2, l2, y2, z2⟩, st2⟩ := X.specialBack hx (y := y) hy1 hown (mvT hZ w1) (mvT hZ w2) (mvT hZ w4) hy (backOf (W := W) hM hZ w4 w3 hfr hlo) (g := mkF m pc Ls st) rfl hsz (Steps.refl _) (a := a) (argsL := argsL) (rest := rest) hlen hst (by show 2 * 0 + _ ≤ _; omega) hd (fun _ _ => ⟨has, eT, hce, hsl⟩)
  dsimp only [Pt.U, Pt.locs, Pt.cells, Pt.slots] at X2 l2 y2 z2 st2 hQ2
  subst l2 y2 z2
  exact ownVia (fun _ k => st2.trans k) (K v T2 Lc2 X2 hQ2)
theorem ownCallV {own C' : String} {index : Nat} {y z : MethodName} {bytes : ByteArray} {maxL : Nat} {ret : Option FieldType} {rm : Room} {as' : Array Value} {Q' : Option Value → Heap → List Loc → Prop}
    (X : Stand p l e R s m args below meth c T locs cells slots) (hx : p.tables.exec = Jvm.exec) (hZ : Z.Warmed39 s.vm) (hown : s.vm.findClass own = some m.cls)
    (w1 : (Jvm.Cond.methodLink own index y).before a0 Z = true) (w2 : (Jvm.Cond.declares y).before a0 Z = true) (w5 : (Jvm.Cond.selects y.cls y y).before a0 Z = true) (w6 : (Jvm.Cond.selects C' y z).before a0 Z = true) (w7 : (Jvm.Cond.instanceMethod z).before a0 Z = true) (w3 : (Jvm.Cond.initialized z.cls).before a0 Z = true) (w4 : (Jvm.Cond.code z bytes maxL ret).before a0 Z = true)
    (hy : y.cls ≠ "java/lang/invoke/MethodHandle" ∧ y.cls ≠ "java/lang/invoke/VarHandle") (eT : T.heap = h) {a : Addr} (E : Exa Z h a C') (hM : ownMet l Z z bytes maxL ret [] rm as' h Q')
    {pc : Nat} {Ls : Array Slot} {st : List Value} (hsz : Ls.size = c.maxLocals) (argsL rest : List Value) (hlen : ∀ sig, parseMethodDescriptor y.desc = some sig → argsL.length = sig.parameters.length)
    (hst : st = argsL.reverse ++ .ref a :: rest) (has : (Value.ref a :: argsL).toArray = as') (W : Nat) (hW : (rest.map fun v => v.category).sum = W) (hd : decode c.code pc = .ok (.invokevirtual index, 3))
    (hfr : rm.frames + 1 ≤ R.frames) (hlo : W + (maxL + 11) + rm.locals ≤ R.locals) (hce : cells + rm.cells ≤ R.cells) (hsl : slots + rm.slots ≤ R.slots)
    (K : ∀ v T' L', Stand p l e R s m args below meth c T' (locs ++ L') (cells + rm.cells) (slots + rm.slots) → Q' v T'.heap L' → ownFin p e below F Q (T'.setTop (mkF m (pc + 3) Ls (v.toList ++ rest)))) :
    ownFin p e below F Q (T.setTop (mkF m pc Ls st)) := by
  obtain ⟨cq, kq, qa, qb, qc⟩ := isOf hZ eT E
  obtain ⟨v, _, ⟨T2, L2, k2, n2⟩, -, X2, ⟨Lc2, hQ2, l2, y2, z2⟩, st2⟩ := X.virtualBack hx (y := y) (z := z) hown (mvT hZ w1) (mvT hZ w2) (notFace_of_selects (args := #[]) (mvT hZ w5)) (mvT hZ w6) (mvT hZ w7) hy (backOf (W := W) hM hZ w4 w3 hfr hlo) qa qc (g := mkF m pc Ls st) rfl hsz (Steps.refl _) (argsL := argsL) (rest := rest) hlen hst (by show 2 * 0 + _ ≤ _; omega) hd (fun _ _ => ⟨has, eT, hce, hsl⟩)
  dsimp only [Pt.U, Pt.locs, Pt.cells, Pt.slots] at X2 l2 y2 z2 st2 hQ2
  subst l2 y2 z2
  exact ownVia (fun _ k => st2.trans k) (K v T2 Lc2 X2 hQ2)
theorem ownLen {a : Addr} {k : ClassId} {ty : FieldType} {z : Int32} {vs : List Value} {dv : Value} (X : Stand p l e R s m args below meth c T locs cells slots) (hx : p.tables.exec = Jvm.exec) (hZ : Z.Warmed39 s.vm) (eT : T.heap = h) (A : Arv Z h a k ty z vs dv) {pc : Nat} {Ls : Array Slot} {rest : List Value} (hd : decode c.code pc = .ok (.arraylength, 1))
    (K : ownFin p e below F Q (T.setTop (mkF m (pc + 1) Ls (.int z :: rest)))) : ownFin p e below F Q (T.setTop (mkF m pc Ls (.ref a :: rest))) := by
  obtain ⟨cl, Ar, -, Sz, Nz, -, -⟩ := A
  rw [← len_of Sz Nz] at K
  exact ownVia (fun t k => X.arraylength hx (by rw [eT]; exact Ar.1) (State.isArrayOf_alike hZ.alike Ar.2.1) (g := mkF m pc Ls (.ref a :: rest)) rfl rfl hd t k) K
theorem ownBaload {a : Addr} {k : ClassId} {z j : Int32} {vs : List Value} {dv v : Value} (X : Stand p l e R s m args below meth c T locs cells slots) (hx : p.tables.exec = Jvm.exec) (hZ : Z.Warmed39 s.vm) (eT : T.heap = h) (A : Arv Z h a k .byte z vs dv) (hj : ¬ j < 0 ∧ j < z) (hv : vs.getD j.toNatClampNeg dv = v) {pc : Nat} {Ls : Array Slot} {rest : List Value} (hd : decode c.code pc = .ok (.baload, 1))
    (K : ownFin p e below F Q (T.setTop (mkF m (pc + 1) Ls (v :: rest)))) : ownFin p e below F Q (T.setTop (mkF m pc Ls (.int j :: .ref a :: rest))) := by
  obtain ⟨cl, Ar, -, Sz, Nz, H, -⟩ := A
  have hin := inb_of Sz hj
  exact ownVia (fun t k => X.baloadBytes hx (by rw [eT]; exact Ar.1) (State.isArrayOf_alike hZ.alike Ar.2.1) Ar.2.2 hin (H.at hin hv) (g := mkF m pc Ls (.int j :: .ref a :: rest)) rfl rfl hd t k) K
theorem ownIaload {a : Addr} {k : ClassId} {z j : Int32} {vs : List Value} {dv v : Value} (X : Stand p l e R s m args below meth c T locs cells slots) (hx : p.tables.exec = Jvm.exec) (hZ : Z.Warmed39 s.vm) (eT : T.heap = h) (A : Arv Z h a k .int z vs dv) (hj : ¬ j < 0 ∧ j < z) (hv : vs.getD j.toNatClampNeg dv = v) {pc : Nat} {Ls : Array Slot} {rest : List Value} (hd : decode c.code pc = .ok (.iaload, 1))
    (K : ownFin p e below F Q (T.setTop (mkF m (pc + 1) Ls (v :: rest)))) : ownFin p e below F Q (T.setTop (mkF m pc Ls (.int j :: .ref a :: rest))) := by
  obtain ⟨cl, Ar, -, Sz, Nz, H, -⟩ := A
  have hin := inb_of Sz hj
  exact ownVia (fun t k => X.iaload hx (by rw [eT]; exact Ar.1) (State.isArrayOf_alike hZ.alike Ar.2.1) Ar.2.2 hin (H.at hin hv) (g := mkF m pc Ls (.int j :: .ref a :: rest)) rfl rfl hd t k) K
theorem ownLaload {a : Addr} {k : ClassId} {z j : Int32} {vs : List Value} {dv v : Value} (X : Stand p l e R s m args below meth c T locs cells slots) (hx : p.tables.exec = Jvm.exec) (hZ : Z.Warmed39 s.vm) (eT : T.heap = h) (A : Arv Z h a k .long z vs dv) (hj : ¬ j < 0 ∧ j < z) (hv : vs.getD j.toNatClampNeg dv = v) {pc : Nat} {Ls : Array Slot} {rest : List Value} (hd : decode c.code pc = .ok (.laload, 1))
    (K : ownFin p e below F Q (T.setTop (mkF m (pc + 1) Ls (v :: rest)))) : ownFin p e below F Q (T.setTop (mkF m pc Ls (.int j :: .ref a :: rest))) := by
  obtain ⟨cl, Ar, -, Sz, Nz, H, -⟩ := A
  have hin := inb_of Sz hj
  exact ownVia (fun t k => X.laload hx (by rw [eT]; exact Ar.1) (State.isArrayOf_alike hZ.alike Ar.2.1) Ar.2.2 hin (H.at hin hv) (g := mkF m pc Ls (.int j :: .ref a :: rest)) rfl rfl hd t k) K
theorem ownBastore {a : Addr} {k : ClassId} {z j x : Int32} {vs : List Value} {dv : Value} {n0 : Nat} (X : Stand p l e R s m args below meth c T locs cells slots) (hx : p.tables.exec = Jvm.exec) (hZ : Z.Warmed39 s.vm) (eT : T.heap = h) (A : Arv Z h a k .byte z vs dv) (hj : ¬ j < 0 ∧ j < z) (i : Nat) (hi : j.toNatClampNeg = i) (hl : i < vs.length) (N : Fr n0 locs) (ge : n0 ≤ a) {pc : Nat} {Ls : Array Slot} {rest : List Value} (hd : decode c.code pc = .ok (.bastore, 1))
    (K : ∀ T' h' L', Stand p l e R s m args below meth c T' L' cells slots → T'.heap = h' → Fr n0 L' → Wr h h' a i (.int (nar .byte x)) → Arv Z h' a k .byte z (vs.set i (.int (nar .byte x))) dv → ownFin p e below F Q (T'.setTop (mkF m (pc + 1) Ls rest))) :
    ownFin p e below F Q (T.setTop (mkF m pc Ls (.int x :: .int j :: .ref a :: rest))) := by
  obtain ⟨cl, Ar, q1, Sz, Nz, H, G⟩ := A
  obtain ⟨T', h', X', e', W, st⟩ := stB X hx hZ eT Ar (j := j) (x := x) (inb_of Sz hj) (g := mkF m pc Ls (.int x :: .int j :: .ref a :: rest)) rfl rfl hd
  have N' := Fr.snoc X' N ge
  have A' := Arv.set Ar q1 Sz Nz H G (fits_nar_byte x) W i hi hl
  rw [hi] at W
  exact ownVia st (K T' h' _ X' e' N' W A')
theorem ownIastore {a : Addr} {k : ClassId} {z j x : Int32} {vs : List Value} {dv : Value} {n0 : Nat} (X : Stand p l e R s m args below meth c T locs cells slots) (hx : p.tables.exec = Jvm.exec) (hZ : Z.Warmed39 s.vm) (eT : T.heap = h) (A : Arv Z h a k .int z vs dv) (hj : ¬ j < 0 ∧ j < z) (i : Nat) (hi : j.toNatClampNeg = i) (hl : i < vs.length) (N : Fr n0 locs) (ge : n0 ≤ a) {pc : Nat} {Ls : Array Slot} {rest : List Value} (hd : decode c.code pc = .ok (.iastore, 1))
    (K : ∀ T' h' L', Stand p l e R s m args below meth c T' L' cells slots → T'.heap = h' → Fr n0 L' → Wr h h' a i (.int x) → Arv Z h' a k .int z (vs.set i (.int x)) dv → ownFin p e below F Q (T'.setTop (mkF m (pc + 1) Ls rest))) :
    ownFin p e below F Q (T.setTop (mkF m pc Ls (.int x :: .int j :: .ref a :: rest))) := by
  obtain ⟨cl, Ar, q1, Sz, Nz, H, G⟩ := A
  obtain ⟨T', h', X', e', W, st⟩ := stI X hx hZ eT Ar (j := j) (x := x) (inb_of Sz hj) (g := mkF m pc Ls (.int x :: .int j :: .ref a :: rest)) rfl rfl hd
  have N' := Fr.snoc X' N ge
  have A' := Arv.set Ar q1 Sz Nz H G rfl W i hi hl
  rw [hi] at W
  exact ownVia st (K T' h' _ X' e' N' W A')
theorem ownLastore {a : Addr} {k : ClassId} {z j : Int32} {x : Int64} {vs : List Value} {dv : Value} {n0 : Nat} (X : Stand p l e R s m args below meth c T locs cells slots) (hx : p.tables.exec = Jvm.exec) (hZ : Z.Warmed39 s.vm) (eT : T.heap = h) (A : Arv Z h a k .long z vs dv) (hj : ¬ j < 0 ∧ j < z) (i : Nat) (hi : j.toNatClampNeg = i) (hl : i < vs.length) (N : Fr n0 locs) (ge : n0 ≤ a) {pc : Nat} {Ls : Array Slot} {rest : List Value} (hd : decode c.code pc = .ok (.lastore, 1))
    (K : ∀ T' h' L', Stand p l e R s m args below meth c T' L' cells slots → T'.heap = h' → Fr n0 L' → Wr h h' a i (.long x) → Arv Z h' a k .long z (vs.set i (.long x)) dv → ownFin p e below F Q (T'.setTop (mkF m (pc + 1) Ls rest))) :
    ownFin p e below F Q (T.setTop (mkF m pc Ls (.long x :: .int j :: .ref a :: rest))) := by
  obtain ⟨cl, Ar, q1, Sz, Nz, H, G⟩ := A
  obtain ⟨T', h', X', e', W, st⟩ := stJ X hx hZ eT Ar (j := j) (x := x) (inb_of Sz hj) (g := mkF m pc Ls (.long x :: .int j :: .ref a :: rest)) rfl rfl hd
  have N' := Fr.snoc X' N ge
  have A' := Arv.set Ar q1 Sz Nz H G rfl W i hi hl
  rw [hi] at W
  exact ownVia st (K T' h' _ X' e' N' W A')
theorem ownNewP {aty : ArrayType} {n : Int32} (X : Stand p l e R s m args below meth c T locs cells slots) (hx : p.tables.exec = Jvm.exec) (hZ : Z.Warmed39 s.vm) (w : (Jvm.Cond.arrayClass (newarray.typeOf aty)).before a0 Z = true) (eT : T.heap = h) (ad : String) (had : "[" ++ (newarray.typeOf aty).toString = ad) (hn : ¬ n < 0) (N : Nat) (hN : n.toNatClampNeg = N) (cap : Nat) (hcap : N ≤ cap) (hb : cap * 8 ≤ 536870912) (hc : cells + 1 ≤ R.cells) (hl : slots + cap ≤ R.slots)
    {pc : Nat} {Ls : Array Slot} {rest : List Value} (hd : decode c.code pc = .ok (.newarray aty, 2))
    (K : ∀ T' h' k a, a = h.size → Stand p l e R s m args below meth c T' locs (cells + 1) (slots + cap) → T'.heap = h' → Ext h h' → Arv Z h' a k (newarray.typeOf aty) n (List.replicate N (defaultValue (newarray.typeOf aty))) (defaultValue (newarray.typeOf aty)) → Exa Z h' a ad → ownFin p e below F Q (T'.setTop (mkF m (pc + 2) Ls (.ref a :: rest)))) :
    ownFin p e below F Q (T.setTop (mkF m pc Ls (.int n :: rest))) := by
  obtain ⟨T', h', k, X', e', E, A, Ex, st⟩ := newPE X hx hZ w eT (g := mkF m pc Ls (.int n :: rest)) rfl hd rfl hn (cap := cap) (by rw [hN]; exact hcap) hb hc hl had
  exact ownVia st (K T' h' k _ rfl X' e' E ((Arv.new A hn).pad (pad_rep [] _ _)) Ex)
theorem ownClone {own : String} {index : Nat} {a : Addr} {k : ClassId} {ty : FieldType} {z : Int32} {vs : List Value} {dv : Value} {ad : String} (X : Stand p l e R s m args below meth c T locs cells slots) (hx : p.tables.exec = Jvm.exec) (hZ : Z.Warmed39 s.vm) (hown : s.vm.findClass own = some m.cls)
    (w1 : (Jvm.Cond.methodLink own index ⟨ad, "clone", "()Ljava/lang/Object;"⟩).before a0 Z = true) (w2 : (Jvm.Cond.sameMethod ad "java/lang/Object" "clone" "()Ljava/lang/Object;").before a0 Z = true) (w3 : (Jvm.Cond.native ⟨"java/lang/Object", "clone", "()Ljava/lang/Object;"⟩).before a0 Z = true)
    (w4 : (Jvm.Cond.instanceMethod ⟨"java/lang/Object", "clone", "()Ljava/lang/Object;"⟩).before a0 Z = true) (w5 : (Jvm.Cond.selects ad ⟨ad, "clone", "()Ljava/lang/Object;"⟩ ⟨"java/lang/Object", "clone", "()Ljava/lang/Object;"⟩).before a0 Z = true) (w6 : (Jvm.Cond.castable ad "java/lang/Cloneable").before a0 Z = true)
    (eT : T.heap = h) (A : Arv Z h a k ty z vs dv) (E : Exa Z h a ad) {pc : Nat} {Ls : Array Slot} {rest : List Value} (hsz : Ls.size = c.maxLocals) (hd : decode c.code pc = .ok (.invokevirtual index, 3)) (hf : 1 ≤ R.frames) (W : Nat) (hW : (rest.map fun v => v.category).sum = W) (hlo : W + 14 ≤ R.locals) (cap : Nat) (hcap : z.toNatClampNeg ≤ cap) (hc : cells + 1 ≤ R.cells) (hsl : slots + cap ≤ R.slots)
    (K : ∀ T' h' b, b = h.size → Stand p l e R s m args below meth c T' locs (cells + 1) (slots + cap) → T'.heap = h' → Ext h h' → Arv Z h' b k ty z vs dv → Exa Z h' b ad → ownFin p e below F Q (T'.setTop (mkF m (pc + 3) Ls (.ref b :: rest)))) :
    ownFin p e below F Q (T.setTop (mkF m pc Ls (.ref a :: rest))) := by
  obtain ⟨T', h', X', e', Ex, A', E', st⟩ := cloneH X hx hZ hown w1 w2 w3 w4 w5 w6 eT A.arh E (g := mkF m pc Ls (.ref a :: rest)) rfl hsz rfl hd hf (W := W) (by show 2 * 0 + _ ≤ _; omega) hlo hcap hc hsl
  exact ownVia st (K T' h' _ rfl X' e' Ex A' E')
theorem ownCallP {own : String} {index : Nat} {y y2 : MethodName} {bytes : ByteArray} {maxL : Nat} {ret : Option FieldType} {rm : Room} {as' : Array Value} {Q' : Option Value → Heap → List Loc → Prop} {C' : String}
    (X : Stand p l e R s m args below meth c T locs cells slots) (hx : p.tables.exec = Jvm.exec) (hZ : Z.Warmed39 s.vm) (hown : s.vm.findClass own = some m.cls)
    (w1 : (Jvm.Cond.methodLink own index y).before a0 Z = true) (w2 : (Jvm.Cond.privateMethod y).before a0 Z = true) (w5 : (Jvm.Cond.selects y2.cls y2 y2).before a0 Z = true) (hc2 : y2.cls = y.cls) (w7 : (Jvm.Cond.instanceMethod y).before a0 Z = true) (w3 : (Jvm.Cond.initialized y.cls).before a0 Z = true) (w4 : (Jvm.Cond.code y bytes maxL ret).before a0 Z = true)
    (hy : y.cls ≠ "java/lang/invoke/MethodHandle" ∧ y.cls ≠ "java/lang/invoke/VarHandle") (eT : T.heap = h) {a : Addr} (E : Exa Z h a C') (hM : ownMet l Z y bytes maxL ret [] rm as' h Q')
    {pc : Nat} {Ls : Array Slot} {st : List Value} (hsz : Ls.size = c.maxLocals) (argsL rest : List Value) (hlen : ∀ sig, parseMethodDescriptor y.desc = some sig → argsL.length = sig.parameters.length)
    (hst : st = argsL.reverse ++ .ref a :: rest) (has : (Value.ref a :: argsL).toArray = as') (W : Nat) (hW : (rest.map fun v => v.category).sum = W) (hd : decode c.code pc = .ok (.invokevirtual index, 3))
    (hfr : rm.frames + 1 ≤ R.frames) (hlo : W + (maxL + 11) + rm.locals ≤ R.locals) (hce : cells + rm.cells ≤ R.cells) (hsl : slots + rm.slots ≤ R.slots)
    (K : ∀ v T' L', Stand p l e R s m args below meth c T' (locs ++ L') (cells + rm.cells) (slots + rm.slots) → Q' v T'.heap L' → ownFin p e below F Q (T'.setTop (mkF m (pc + 3) Ls (v.toList ++ rest)))) :
    ownFin p e below F Q (T.setTop (mkF m pc Ls st)) := by
  have hpriv : s.PrivateAt y := Cond.privateMethod_at (mvP hZ w2 (args := #[]))
  have hsel2 : (Jvm.Cond.selects y2.cls y2 y2).before args s = true := mvT hZ w5
  obtain ⟨c2, r2, m2, q1, q2, q3, q4, kP, hkP, hkPi⟩ := Cond.selects_spec hsel2
  have hf2 := findClass_of_methodNamed q3
  rw [hc2] at hf2
  have hsel : (Jvm.Cond.selects y.cls y y).before args s = true := selects_self_of_private hf2 hkP hkPi hpriv (mvT hZ w7) hy
  obtain ⟨cq, qc1, qc2⟩ := E.cell
  obtain ⟨v, _, ⟨T2, L2, k2, n2⟩, -, X2, ⟨Lc2, hQ2, l2, y2', z2⟩, st2⟩ := X.privateBack hx (y := y) hown (mvT hZ w1) (mvT hZ w7) hsel hpriv (mvT hZ w4) hy (backOf (W := W) hM hZ w4 w3 hfr hlo) (g := mkF m pc Ls st) rfl hsz (Steps.refl _) (a := a) (by rw [eT]; exact qc1) qc2 (argsL := argsL) (rest := rest) hlen hst (by show 2 * 0 + _ ≤ _; omega) hd (fun _ _ => ⟨has, eT, hce, hsl⟩)
  dsimp only [Pt.U, Pt.locs, Pt.cells, Pt.slots] at X2 l2 y2' z2 st2 hQ2
  subst l2 y2' z2
  exact ownVia (fun _ k => st2.trans k) (K v T2 Lc2 X2 hQ2)
theorem ownCast {own K' : String} {index : Nat} {a : Addr} (X : Stand p l e R s m args below meth c T locs cells slots) (hx : p.tables.exec = Jvm.exec) (hZ : Z.Warmed39 s.vm) (hown : s.vm.findClass own = some m.cls) (w : (Jvm.Cond.classLink own index K').before a0 Z = true) (eT : T.heap = h) (FI : Ins Z h a K' true) {pc : Nat} {Ls : Array Slot} {rest : List Value} (hd : decode c.code pc = .ok (.checkcast index, 3))
    (K : ∀ T', Stand p l e R s m args below meth c T' locs cells slots → T'.heap = h → ownFin p e below F Q (T'.setTop (mkF m (pc + 3) Ls (.ref a :: rest)))) : ownFin p e below F Q (T.setTop (mkF m pc Ls (.ref a :: rest))) := by
  obtain ⟨T', X', e', st⟩ := castY X hx hZ hown w eT FI (g := mkF m pc Ls (.ref a :: rest)) rfl rfl hd
  exact ownVia st (K T' X' e')
theorem own_clamp {j : Int32} {n : Nat} (h : j.toInt = (n : Int)) : j.toNatClampNeg = n := by
  show j.toInt.toNat = n
  rw [h]; rfl
theorem own_nneg {j : Int32} {n : Nat} (h : j.toInt = (n : Int)) : ¬ j < 0 := fun q => by
  have := Int32.lt_iff_toInt_lt.mp q
  have k0 : (0 : Int32).toInt = 0 := by decide
  omega
theorem ownCopy {own : String} {index : Nat} {a b : Addr} {k k' : ClassId} {ty : FieldType} {z z' sp dp nn : Int32} {vs vd : List Value} {dv dd : Value} {n0 : Nat} (X : Stand p l e R s m args below meth c T locs cells slots) (hx : p.tables.exec = Jvm.exec) (hZ : Z.Warmed39 s.vm) (hown : s.vm.findClass own = some m.cls)
    (w1 : (Jvm.Cond.methodLink own index Jvm.Stand.acN).before a0 Z = true) (w2 : (Jvm.Cond.native Jvm.Stand.acN).before a0 Z = true) (w3 : (Jvm.Cond.static Jvm.Stand.acN).before a0 Z = true) (w4 : (Jvm.Cond.initialized "java/lang/System").before a0 Z = true) (eT : T.heap = h)
    (A : Arv Z h a k ty z vs dv) (B : Arv Z h b k' ty z' vd dd) (hty : refKind ty = false) (i j n lz lz' : Nat) (hi : sp.toInt = (i : Int)) (hj : dp.toInt = (j : Int)) (hn : nn.toInt = (n : Int)) (hz : z.toInt = (lz : Int)) (hz' : z'.toInt = (lz' : Int)) (h4 : i + n ≤ lz) (h5 : j + n ≤ lz') (hl : j + n ≤ vd.length) (N : Fr n0 locs) (ge : n0 ≤ b)
    {pc : Nat} {Ls : Array Slot} {rest : List Value} (hsz : Ls.size = c.maxLocals) (hd : decode c.code pc = .ok (.invokestatic index, 3)) (hf : 1 ≤ R.frames) (W : Nat) (hW : (rest.map fun v => v.category).sum = W) (hlo : W + (nativeFrameWords "java/lang/System" "arraycopy" 5 + 11) ≤ R.locals)
    (K : ∀ T' h' L', Stand p l e R s m args below meth c T' L' cells slots → T'.heap = h' → Fr n0 L' → Keep h h' [b] → Arv Z h' b k' ty z' (vd.take j ++ ((List.range n).map fun x => vs.getD (i + x) dv) ++ vd.drop (j + n)) dd → ownFin p e below F Q (T'.setTop (mkF m (pc + 3) Ls rest))) :
    ownFin p e below F Q (T.setTop (mkF m pc Ls (.int nn :: .int dp :: .ref b :: .int sp :: .ref a :: rest))) := by
  have e1 := own_clamp hi
  have e2 := own_clamp hj
  have e3 := own_clamp hn
  have e4 := own_clamp hz
  have e5 := own_clamp hz'
  obtain ⟨T', h', L', X', e', N', K', B', st⟩ := cpA X hx hZ hown w1 w2 w3 w4 eT A B (Or.inl ⟨rfl, hty⟩) (own_nneg hi) (own_nneg hj) (own_nneg hn) (by omega) (by omega) rfl (by omega) N ge (g := mkF m pc Ls (.int nn :: .int dp :: .ref b :: .int sp :: .ref a :: rest)) rfl hsz rfl hd hf (W := W) (by show 2 * 0 + _ ≤ _; omega) hlo
  rw [e1, e2, e3] at B'
  exact ownVia st (K T' h' L' X' e' N' K' B')
theorem own_lti {a b : Int32} {x y : Int} (ha : a.toInt = x) (hb : b.toInt = y) : a < b ↔ x < y := by rw [Int32.lt_iff_toInt_lt, ha, hb]
theorem own_sub {a b : Int32} {i j : Nat} (ha : a.toInt = (i : Int)) (hb : b.toInt = (j : Int)) (h : j ≤ i) : (a - b).toInt = ((i - j : Nat) : Int) := by
  have h1 := c_isub a b
  have h2 := rng32 (a - b)
  have h3 := rng32 a
  have h4 := rng32 b
  omega
theorem own_add {a b : Int32} {i j : Nat} (ha : a.toInt = (i : Int)) (hb : b.toInt = (j : Int)) (h : i + j < 2147483648) : (a + b).toInt = ((i + j : Nat) : Int) := by
  have h1 := c_iadd a b
  have h2 := rng32 (a + b)
  omega
theorem own_nlt {a b : Int32} {i j : Int} (ha : a.toInt = i) (hb : b.toInt = j) (h : j ≤ i) : ¬ a < b := fun q => by
  have := (own_lti ha hb).mp q
  omega
theorem own_enum {args : Array Value} {C n d K : String} (hx : (Jvm.Cond.exactly (.static C n d) K).value args s none s [] = some true) (wi : (Jvm.Cond.initialized C).before args s = true) (wl : (Jvm.Cond.laysStatic C n d).before args s = true) :
    ∃ a, (Term.static C n d).eval args s none [] s = some (.ref a) ∧ Sta s s.heap C n d (.ref a) ∧ Exa s s.heap a K := by
  obtain ⟨a, ev⟩ := exa_v hx
  exact ⟨a, ev, Sta.start ev (Or.inr ⟨wi, wl⟩), Exa.start ev hx⟩
theorem own_eqv {args : Array Value} {t : Term} {k : Int32} (hf : (Jvm.Cond.eq t (.int k)).value args s none s [] = some true) : t.eval args s none [] s = some (.int k) := by
  cases hv : t.eval args s none [] s with
  | none => simp [Cond.value, hv] at hf
  | some v =>
    cases v <;> simp [Cond.value, hv, Term.eval] at hf
    rw [hf]
theorem own_efld {args : Array Value} {t : Term} {a : Addr} {C n d : String} {k : Int32} (ev : t.eval args s none [] s = some (.ref a)) (hf : (Jvm.Cond.eq (.field t C n d) (.int k)).value args s none s [] = some true) : Fld s s.heap a C n d (.int k) :=
  Fld.start ((fld_at ev).symm.trans (own_eqv hf))
theorem own_iff_f {A B P : Prop} (hA : ¬ A) (h : P ↔ A ∨ B) : P ↔ B := by simpa [hA] using h
theorem own_iff_t {A B P : Prop} (hA : A) (h : P ↔ A ∨ B) : P := h.mpr (Or.inl hA)
theorem own_ref_ne {a b : Addr} (h : a ≠ b) : ¬ (Value.ref a) = .ref b := fun q => h (by cases q; rfl)
theorem own_sz {n0 : Nat} {h' : Heap} (q : n0 ≤ h.size) (E : Ext h h') : n0 ≤ h'.size := Nat.le_trans q E.1
theorem own_szW {n0 : Nat} {h' : Heap} {a : Addr} {sl : Nat} {v : Value} (q : n0 ≤ h.size) (W : Wr h h' a sl v) : n0 ≤ h'.size := by rw [W.size]; exact q
theorem own_eqi {a b : Int32} {x y : Int} (ha : a.toInt = x) (hb : b.toInt = y) : a = b ↔ x = y := by rw [← Int32.toInt_inj, ha, hb]
theorem own_ltl {a b : Int64} {x y : Int} (ha : a.toInt = x) (hb : b.toInt = y) : a < b ↔ x < y := by rw [Int64.lt_iff_toInt_lt, ha, hb]
theorem own_eql {a b : Int64} {x y : Int} (ha : a.toInt = x) (hb : b.toInt = y) : a = b ↔ x = y := by rw [← Int64.toInt_inj, ha, hb]
theorem own_getD_map {α β : Type} (f : α → β) (d : α) (xs : List α) (n : Nat) : (xs.map f).getD n (f d) = f (xs.getD n d) := by
  simp only [List.getD_eq_getElem?_getD, List.getElem?_map]
  cases xs[n]? <;> rfl
theorem own_idx {j z : Int32} {zi : Int} (hz : z.toInt = zi) (h1 : 0 ≤ j.toInt) (h2 : j.toInt < zi) : ¬ j < 0 ∧ j < z := ⟨fun q => by have := (own_lti rfl (by decide : (0 : Int32).toInt = 0)).mp q; omega, Int32.lt_iff_toInt_lt.mpr (by rw [hz]; exact h2)⟩
end Own
def own_mn (a b : Int32) : Int32 := if b < a then b else a
theorem own_mn_t {a b : Int32} (h : b < a) : own_mn a b = b := if_pos h
theorem own_mn_f {a b : Int32} (h : ¬ b < a) : own_mn a b = a := if_neg h
theorem own_mn_int (a b : Int32) : (own_mn a b).toInt = if b.toInt < a.toInt then b.toInt else a.toInt := by
  by_cases h : b < a
  · rw [own_mn_t h, if_pos (Int32.lt_iff_toInt_lt.mp h)]
  · rw [own_mn_f h, if_neg (fun q => h (Int32.lt_iff_toInt_lt.mpr q))]
theorem own_splice {vd us : List Value} {n : Nat} (h : vd.length = n) : vd.take 0 ++ us ++ vd.drop (0 + n) = us := by
  subst h
  simp
theorem own_all {vs : List Value} {n : Nat} {d : Value} (h : vs.length = n) : ((List.range n).map fun x => vs.getD (0 + x) d) = vs := by
  subst h
  apply List.ext_getElem
  · simp
  · intro i h1 h2
    simp at h1
    simp [List.getD_eq_getElem?_getD, h1]
theorem own_all' {vs : List Value} {n : Nat} {d : Value} (h : vs.length = n) : ((List.range n).map fun x => vs.getD x d) = vs := by
  subst h
  apply List.ext_getElem
  · simp
  · intro i h1 h2
    simp at h1
    simp [List.getD_eq_getElem?_getD, h1]
theorem own_grow {vs : List Value} {n lz k : Nat} {d : Value} (h : vs.length = lz) (hk : k = if n < lz then n else lz) : (List.replicate n d).take 0 ++ ((List.range k).map fun x => vs.getD (0 + x) d) ++ (List.replicate n d).drop (0 + k) = (List.range n).map fun x => vs.getD x d := by
  subst h
  have hkn : k ≤ n := by split at hk <;> omega
  apply List.ext_getElem
  · simp; omega
  · intro i h1 h2
    simp at h2
    by_cases q : i < k
    · rw [List.getElem_append_left (by simp; omega), List.getElem_append_right (by simp)]
      simp
    · rw [List.getElem_append_right (by simp; omega)]
      simp
      have : vs.length ≤ i := by split at hk <;> omega
      simp [List.getD_eq_getElem?_getD, this]

def own_ae (a b : Int32) : Int32 := if a = b then 1 else 0
theorem own_ae1 {a b : Int32} (h : a = b) : own_ae a b = 1 := if_pos h
theorem own_ae0 {a b : Int32} (h : ¬ a = b) : own_ae a b = 0 := if_neg h

theorem own_nk (a b : Int32) : 0 ≤ (a &&& (7 : Int32)).toInt ∧ (a &&& (7 : Int32)).toInt ≤ 7 ∧ ¬ ((a &&& (7 : Int32)) + (1 : Int32) = (0 : Int32)) ∧ 0 ≤ ((b &&& (2147483647 : Int32)) % ((a &&& (7 : Int32)) + (1 : Int32))).toInt ∧ ((b &&& (2147483647 : Int32)) % ((a &&& (7 : Int32)) + (1 : Int32))).toInt ≤ (a &&& (7 : Int32)).toInt := by
  have h1 := c_mask a 7 3 (by decide) (by decide)
  have h2 := c_mask b 2147483647 31 (by decide) (by decide)
  have h3 := c_iadd (a &&& 7) 1
  have h4 := rng32 ((a &&& 7) + 1)
  have k1 : (1 : Int32).toInt = 1 := by decide
  have k0 : (0 : Int32).toInt = 0 := by decide
  rw [k1] at h3
  have h5 := (c_iremV (b &&& 2147483647) ((a &&& 7) + 1)).1 (by omega) (by omega)
  refine ⟨by omega, by omega, fun z => ?_, by omega, by omega⟩
  have := congrArg Int32.toInt z
  omega
theorem d1_0 : decode prog_10_method_1_code 0 = .ok (.aload_n 0, 1) := by decide +kernel
theorem d1_1 : decode prog_10_method_1_code 1 = .ok (.invokespecial 1, 3) := by decide +kernel
theorem d1_4 : decode prog_10_method_1_code 4 = .ok (.aload_n 0, 1) := by decide +kernel
theorem d1_5 : decode prog_10_method_1_code 5 = .ok (.aload_n 1, 1) := by decide +kernel
theorem d1_6 : decode prog_10_method_1_code 6 = .ok (.putfield 7, 3) := by decide +kernel
theorem d1_9 : decode prog_10_method_1_code 9 = .ok (.return_, 1) := by decide +kernel
theorem own_pn0 : plainName "com/example/laiskas/laiskas/protocol/Decoder" = true := by first | (simp [plainName, overriddenIn]; done) | decide +kernel
theorem own_ef1 (m : MethodId) (a1 : Addr) (a2 : Addr) : entryFrame m #[(.ref a1), (.ref a2)] 2 = mkF m 0 #[.val (.ref a1), .val (.ref a2)] [] := by first | (simp [entryFrame, mkF, argsToLocals, Value.category]; done) | rfl
def Q_own_init (Z : State) (a1 : Addr) (a2 : Addr) (h0 : Heap) (n0 : Nat)  : Option Value → Heap → List Loc → Prop := fun v h L => v = none ∧ Fr n0 L ∧ Keep h0 h [a1] ∧ Fld Z h a1 "com/example/laiskas/laiskas/protocol/Decoder" "bytes" "[B" (.ref a2) ∧ Fld Z h a1 "com/example/laiskas/laiskas/protocol/Decoder" "position" "I" (.int (0 : Int32))
set_option maxRecDepth 65536 in
set_option maxHeartbeats 40000000 in
theorem own_init (l : Launch) (Z : State) (a0 : Array Value) (hw : ∀ d ∈ tables_1, d.before a0 Z = true)  (a1 : Addr) (a2 : Addr) (h0 : Heap) (n0 : Nat)  (Z0 : n0 ≤ h0.size) (F_a1_bytes : Fld Z h0 a1 "com/example/laiskas/laiskas/protocol/Decoder" "bytes" "[B" .null) (F_a1_position : Fld Z h0 a1 "com/example/laiskas/laiskas/protocol/Decoder" "position" "I" (.int (0 : Int32))) (E_a1 : Exa Z h0 a1 "com/example/laiskas/laiskas/protocol/Decoder") (ge_a1 : n0 ≤ a1) :
    ownMet l Z (⟨"com/example/laiskas/laiskas/protocol/Decoder", "<init>", "([B)V"⟩ : MethodName) prog_10_method_1_code 2 none [] ({ frames := 1, cells := 0, slots := 0, locals := 12 } : Room) #[(.ref a1), (.ref a2)] h0 (Q_own_init Z a1 a2 h0 n0 ) := by
  refine ownBody (plainFor_of_name own_pn0) ?_
  intro p e s m below meth c T0 hx hby hml hret hlk hZ hown hnm X0 e0
  have N0 : Fr n0 [] := Fr.nil n0
  refine ownVia (fun _ k => castTop (own_ef1 m a1 a2) k) ?_
  show ownFin _ _ _ _ _ (T0.setTop (mkF m 0 #[.val (.ref a1), .val (.ref a2)] []))
  have K0 : Keep h0 h0 [a1] := Keep.refl _ _
  refine ownVia (fun _ k => XS.aloadN X0.here hx rfl (hb hby d1_0) rfl rfl k) ?_
  show ownFin _ _ _ _ _ (T0.setTop (mkF m 1 #[.val (.ref a1), .val (.ref a2)] [(.ref a1)]))
  obtain ⟨T2, X2, e2, st2⟩ := initO X0 hx hZ hown (hw _ (List.mem_of_getElem? (i := 8) rfl)) (hw _ (List.mem_of_getElem? (i := 9) rfl)) (hw _ (List.mem_of_getElem? (i := 10) rfl)) e0 (g := (mkF m 1 #[.val (.ref a1), .val (.ref a2)] [(.ref a1)])) rfl (by rw [hml]; rfl) rfl (hb hby d1_1) (by decide) (W := 0) (by show 2 * 0 + _ ≤ _; exact Nat.le_of_eq rfl) (by decide)
  refine ownVia st2 ?_
  show ownFin _ _ _ _ _ (T2.setTop (mkF m 4 #[.val (.ref a1), .val (.ref a2)] []))
  refine ownVia (fun _ k => XS.aloadN X2.here hx rfl (hb hby d1_4) rfl rfl k) ?_
  show ownFin _ _ _ _ _ (T2.setTop (mkF m 5 #[.val (.ref a1), .val (.ref a2)] [(.ref a1)]))
  refine ownVia (fun _ k => XS.aloadN X2.here hx rfl (hb hby d1_5) rfl rfl k) ?_
  show ownFin _ _ _ _ _ (T2.setTop (mkF m 6 #[.val (.ref a1), .val (.ref a2)] [(.ref a2), (.ref a1)]))
  obtain ⟨T3, h3, X3, e3, W3, st3⟩ := putF X2 hx hZ hown (host := "") (Or.inl (hw _ (List.mem_of_getElem? (i := 11) rfl))) Via.refl e2 F_a1_bytes E_a1 (Or.inr ⟨(hw _ (List.mem_of_getElem? (i := 12) rfl)), rfl, hnm⟩) (hw _ (List.mem_of_getElem? (i := 2) rfl)) (ty := (.array .byte)) (by decide) rfl rfl (g := (mkF m 6 #[.val (.ref a1), .val (.ref a2)] [(.ref a2), (.ref a1)])) rfl rfl (hb hby d1_6)
  have N3 := Fr.snoc X3 N0 ge_a1
  have F_a1_bytes := F_a1_bytes.same W3
  have F_a1_position := F_a1_position.other W3 (Or.inr (slot_ne (Or.inl (hw _ (List.mem_of_getElem? (i := 23) rfl))) (Or.inr (hw _ (List.mem_of_getElem? (i := 12) rfl))) (by decide) (t := .int) (t' := (.array .byte)) (by decide) (by decide)))
  have E_a1 := E_a1.wr W3
  have K0 := K0.wr W3 (Or.inl (List.mem_of_getElem? (i := 0) rfl))
  have Z0 := own_szW Z0 W3
  refine ownVia st3 ?_
  show ownFin _ _ _ _ _ (T3.setTop (mkF m 9 #[.val (.ref a1), .val (.ref a2)] []))
  refine ownRetV X3 hx hlk hret (hb hby d1_9) (by decide) (by decide) ?_
  show (Q_own_init Z a1 a2 h0 n0 ) none T3.heap _
  rw [e3]
  exact ⟨rfl, N3, K0, F_a1_bytes, F_a1_position⟩
theorem d4_0 : decode prog_10_method_14_code 0 = .ok (.iload_n 1, 1) := by decide +kernel
theorem d4_1 : decode prog_10_method_14_code 1 = .ok (.aload_n 0, 1) := by decide +kernel
theorem d4_2 : decode prog_10_method_14_code 2 = .ok (.getfield 7, 3) := by decide +kernel
theorem d4_5 : decode prog_10_method_14_code 5 = .ok (.arraylength, 1) := by decide +kernel
theorem d4_6 : decode prog_10_method_14_code 6 = .ok (.aload_n 0, 1) := by decide +kernel
theorem d4_7 : decode prog_10_method_14_code 7 = .ok (.getfield 17, 3) := by decide +kernel
theorem d4_10 : decode prog_10_method_14_code 10 = .ok (.isub, 1) := by decide +kernel
theorem d4_11 : decode prog_10_method_14_code 11 = .ok (.if_icmp .le 27, 3) := by decide +kernel
theorem d4_14 : decode prog_10_method_14_code 14 = .ok (.new 25, 3) := by decide +kernel
theorem d4_17 : decode prog_10_method_14_code 17 = .ok (.dup, 1) := by decide +kernel
theorem d4_18 : decode prog_10_method_14_code 18 = .ok (.iload_n 1, 1) := by decide +kernel
theorem d4_19 : decode prog_10_method_14_code 19 = .ok (.aload_n 0, 1) := by decide +kernel
theorem d4_20 : decode prog_10_method_14_code 20 = .ok (.getfield 7, 3) := by decide +kernel
theorem d4_23 : decode prog_10_method_14_code 23 = .ok (.arraylength, 1) := by decide +kernel
theorem d4_24 : decode prog_10_method_14_code 24 = .ok (.aload_n 0, 1) := by decide +kernel
theorem d4_25 : decode prog_10_method_14_code 25 = .ok (.getfield 17, 3) := by decide +kernel
theorem d4_28 : decode prog_10_method_14_code 28 = .ok (.isub, 1) := by decide +kernel
theorem d4_29 : decode prog_10_method_14_code 29 = .ok (.invokedynamic 55, 5) := by decide +kernel
theorem d4_34 : decode prog_10_method_14_code 34 = .ok (.invokespecial 31, 3) := by decide +kernel
theorem d4_37 : decode prog_10_method_14_code 37 = .ok (.athrow, 1) := by decide +kernel
theorem d4_38 : decode prog_10_method_14_code 38 = .ok (.return_, 1) := by decide +kernel
theorem own_ef4 (m : MethodId) (a1 : Addr) (p1 : Int32) : entryFrame m #[(.ref a1), (.int p1)] 2 = mkF m 0 #[.val (.ref a1), .val (.int p1)] [] := by first | (simp [entryFrame, mkF, argsToLocals, Value.category]; done) | rfl
def Q_own_require (Z : State) (a1 : Addr) (p1 : Int32) (h0 : Heap) (n0 : Nat) (b1 : Addr) (k_b1 : ClassId) (z pos : Int32) (vs : List Value) (dv : Value) : Option Value → Heap → List Loc → Prop := fun v h L => v = none ∧ Fr n0 L ∧ h = h0
set_option maxRecDepth 65536 in
set_option maxHeartbeats 40000000 in
theorem own_require (l : Launch) (Z : State) (a0 : Array Value) (hw : ∀ d ∈ tables_1, d.before a0 Z = true)  (a1 : Addr) (p1 : Int32) (h0 : Heap) (n0 : Nat) (b1 : Addr) (k_b1 : ClassId) (z pos : Int32) (vs : List Value) (dv : Value) (Z0 : n0 ≤ h0.size) (F_a1_bytes : Fld Z h0 a1 "com/example/laiskas/laiskas/protocol/Decoder" "bytes" "[B" (.ref b1)) (F_a1_position : Fld Z h0 a1 "com/example/laiskas/laiskas/protocol/Decoder" "position" "I" (.int pos)) (E_a1 : Exa Z h0 a1 "com/example/laiskas/laiskas/protocol/Decoder") (A_b1 : Arv Z h0 b1 k_b1 .byte z vs dv) (ne_a1_b1 : a1 ≠ b1) (hreq : ¬ (z - pos) < p1) :
    ownMet l Z (⟨"com/example/laiskas/laiskas/protocol/Decoder", "require", "(I)V"⟩ : MethodName) prog_10_method_14_code 2 none [] ({ frames := 0, cells := 0, slots := 0, locals := 0 } : Room) #[(.ref a1), (.int p1)] h0 (Q_own_require Z a1 p1 h0 n0 b1 k_b1 z pos vs dv) := by
  refine ownBody (plainFor_of_name own_pn0) ?_
  intro p e s m below meth c T0 hx hby hml hret hlk hZ hown hnm X0 e0
  have N0 : Fr n0 [] := Fr.nil n0
  refine ownVia (fun _ k => castTop (own_ef4 m a1 p1) k) ?_
  show ownFin _ _ _ _ _ (T0.setTop (mkF m 0 #[.val (.ref a1), .val (.int p1)] []))
  refine ownVia (fun _ k => XS.iloadN X0.here hx rfl (hb hby d4_0) rfl k) ?_
  show ownFin _ _ _ _ _ (T0.setTop (mkF m 1 #[.val (.ref a1), .val (.int p1)] [(.int p1)]))
  refine ownVia (fun _ k => XS.aloadN X0.here hx rfl (hb hby d4_1) rfl rfl k) ?_
  show ownFin _ _ _ _ _ (T0.setTop (mkF m 2 #[.val (.ref a1), .val (.int p1)] [(.ref a1), (.int p1)]))
  obtain ⟨T5, X5, e5, st5⟩ := getF X0 hx hZ hown (host := "") (Or.inl (hw _ (List.mem_of_getElem? (i := 11) rfl))) Via.refl e0 F_a1_bytes (g := (mkF m 2 #[.val (.ref a1), .val (.int p1)] [(.ref a1), (.int p1)])) rfl rfl (hb hby d4_2)
  refine ownVia st5 ?_
  show ownFin _ _ _ _ _ (T5.setTop (mkF m 5 #[.val (.ref a1), .val (.int p1)] [(.ref b1), (.int p1)]))
  refine ownLen X5 hx hZ e5 A_b1 (hb hby d4_5) ?_
  show ownFin _ _ _ _ _ (T5.setTop (mkF m 6 #[.val (.ref a1), .val (.int p1)] [(.int z), (.int p1)]))
  refine ownVia (fun _ k => XS.aloadN X5.here hx rfl (hb hby d4_6) rfl rfl k) ?_
  show ownFin _ _ _ _ _ (T5.setTop (mkF m 7 #[.val (.ref a1), .val (.int p1)] [(.ref a1), (.int z), (.int p1)]))
  obtain ⟨T6, X6, e6, st6⟩ := getF X5 hx hZ hown (host := "") (Or.inl (hw _ (List.mem_of_getElem? (i := 22) rfl))) Via.refl e5 F_a1_position (g := (mkF m 7 #[.val (.ref a1), .val (.int p1)] [(.ref a1), (.int z), (.int p1)])) rfl rfl (hb hby d4_7)
  refine ownVia st6 ?_
  show ownFin _ _ _ _ _ (T6.setTop (mkF m 10 #[.val (.ref a1), .val (.int p1)] [(.int pos), (.int z), (.int p1)]))
  refine ownVia (fun _ k => XS.isub X6.here hx rfl (hb hby d4_10) rfl k) ?_
  show ownFin _ _ _ _ _ (T6.setTop (mkF m 11 #[.val (.ref a1), .val (.int p1)] [(.int (z - pos)), (.int p1)]))
  refine ownVia (fun _ k => XS.icmpYes X6.here hx rfl (pc0 := 11) (pc' := 38) rfl (hb hby d4_11) rfl (flt hreq).2.2.2 (by decide) (by decide) k) ?_
  show ownFin _ _ _ _ _ (T6.setTop (mkF m 38 #[.val (.ref a1), .val (.int p1)] []))
  refine ownRetV X6 hx hlk hret (hb hby d4_38) (by decide) (by decide) ?_
  show (Q_own_require Z a1 p1 h0 n0 b1 k_b1 z pos vs dv) none T6.heap _
  rw [e6]
  exact ⟨rfl, N0, rfl⟩
theorem d3_0 : decode prog_10_method_8_code 0 = .ok (.aload_n 0, 1) := by decide +kernel
theorem d3_1 : decode prog_10_method_8_code 1 = .ok (.iload_n 1, 1) := by decide +kernel
theorem d3_2 : decode prog_10_method_8_code 2 = .ok (.invokevirtual 13, 3) := by decide +kernel
theorem d3_5 : decode prog_10_method_8_code 5 = .ok (.aload_n 0, 1) := by decide +kernel
theorem d3_6 : decode prog_10_method_8_code 6 = .ok (.dup, 1) := by decide +kernel
theorem d3_7 : decode prog_10_method_8_code 7 = .ok (.getfield 17, 3) := by decide +kernel
theorem d3_10 : decode prog_10_method_8_code 10 = .ok (.iload_n 1, 1) := by decide +kernel
theorem d3_11 : decode prog_10_method_8_code 11 = .ok (.iadd, 1) := by decide +kernel
theorem d3_12 : decode prog_10_method_8_code 12 = .ok (.putfield 17, 3) := by decide +kernel
theorem d3_15 : decode prog_10_method_8_code 15 = .ok (.return_, 1) := by decide +kernel
theorem own_ef7 (m : MethodId) (a1 : Addr) (p1 : Int32) : entryFrame m #[(.ref a1), (.int p1)] 2 = mkF m 0 #[.val (.ref a1), .val (.int p1)] [] := by first | (simp [entryFrame, mkF, argsToLocals, Value.category]; done) | rfl
def Q_own_skip (Z : State) (a1 : Addr) (p1 : Int32) (h0 : Heap) (n0 : Nat) (b1 : Addr) (k_b1 : ClassId) (z pos : Int32) (vs : List Value) (dv : Value) : Option Value → Heap → List Loc → Prop := fun v h L => v = none ∧ Fr n0 L ∧ Keep h0 h [a1] ∧ Fld Z h a1 "com/example/laiskas/laiskas/protocol/Decoder" "bytes" "[B" (.ref b1) ∧ Fld Z h a1 "com/example/laiskas/laiskas/protocol/Decoder" "position" "I" (.int (pos + p1))
theorem own_pd0 : parseMethodDescriptor "(I)V" = some ⟨[.int], none⟩ := by decide +kernel
set_option maxRecDepth 65536 in
set_option maxHeartbeats 40000000 in
theorem own_skip (l : Launch) (Z : State) (a0 : Array Value) (hw : ∀ d ∈ tables_1, d.before a0 Z = true)  (a1 : Addr) (p1 : Int32) (h0 : Heap) (n0 : Nat) (b1 : Addr) (k_b1 : ClassId) (z pos : Int32) (vs : List Value) (dv : Value) (Z0 : n0 ≤ h0.size) (F_a1_bytes : Fld Z h0 a1 "com/example/laiskas/laiskas/protocol/Decoder" "bytes" "[B" (.ref b1)) (F_a1_position : Fld Z h0 a1 "com/example/laiskas/laiskas/protocol/Decoder" "position" "I" (.int pos)) (E_a1 : Exa Z h0 a1 "com/example/laiskas/laiskas/protocol/Decoder") (A_b1 : Arv Z h0 b1 k_b1 .byte z vs dv) (ne_a1_b1 : a1 ≠ b1) (ge_a1 : n0 ≤ a1) (hreq : ¬ (z - pos) < p1) :
    ownMet l Z (⟨"com/example/laiskas/laiskas/protocol/Decoder", "skip", "(I)V"⟩ : MethodName) prog_10_method_8_code 2 none [] ({ frames := 1, cells := 0, slots := 0, locals := 16 } : Room) #[(.ref a1), (.int p1)] h0 (Q_own_skip Z a1 p1 h0 n0 b1 k_b1 z pos vs dv) := by
  refine ownBody (plainFor_of_name own_pn0) ?_
  intro p e s m below meth c T0 hx hby hml hret hlk hZ hown hnm X0 e0
  have N0 : Fr n0 [] := Fr.nil n0
  refine ownVia (fun _ k => castTop (own_ef7 m a1 p1) k) ?_
  show ownFin _ _ _ _ _ (T0.setTop (mkF m 0 #[.val (.ref a1), .val (.int p1)] []))
  have K0 : Keep h0 h0 [a1] := Keep.refl _ _
  refine ownVia (fun _ k => XS.aloadN X0.here hx rfl (hb hby d3_0) rfl rfl k) ?_
  show ownFin _ _ _ _ _ (T0.setTop (mkF m 1 #[.val (.ref a1), .val (.int p1)] [(.ref a1)]))
  refine ownVia (fun _ k => XS.iloadN X0.here hx rfl (hb hby d3_1) rfl k) ?_
  show ownFin _ _ _ _ _ (T0.setTop (mkF m 2 #[.val (.ref a1), .val (.int p1)] [(.int p1), (.ref a1)]))
  refine ownCallP (y2 := (⟨"com/example/laiskas/laiskas/protocol/Decoder", "skip", "(I)V"⟩ : MethodName)) X0 hx hZ hown (hw _ (List.mem_of_getElem? (i := 18) rfl)) (hw _ (List.mem_of_getElem? (i := 20) rfl)) (hw _ (List.mem_of_getElem? (i := 16) rfl)) rfl (hw _ (List.mem_of_getElem? (i := 19) rfl)) (hw _ (List.mem_of_getElem? (i := 3) rfl)) (hw _ (List.mem_of_getElem? (i := 21) rfl)) (by decide) e0 E_a1 (own_require l Z a0 hw a1 p1 h0 n0 b1 k_b1 z pos vs dv Z0 F_a1_bytes F_a1_position E_a1 A_b1 ne_a1_b1 hreq) (by rw [hml]; rfl) [(.int p1)] [] (lenOf own_pd0 rfl) rfl rfl 0 rfl (hb hby d3_2) (by decide) (by decide) (by decide) (by decide) ?_
  intro v8 T8 L8 X8 hq8
  obtain ⟨rfl, N8q, eq8⟩ := hq8
  have N8 := Fr.app N0 N8q
  have e8 : T8.heap = h0 := eq8
  show ownFin _ _ _ _ _ (T8.setTop (mkF m 5 #[.val (.ref a1), .val (.int p1)] []))
  refine ownVia (fun _ k => XS.aloadN X8.here hx rfl (hb hby d3_5) rfl rfl k) ?_
  show ownFin _ _ _ _ _ (T8.setTop (mkF m 6 #[.val (.ref a1), .val (.int p1)] [(.ref a1)]))
  refine ownVia (fun _ k => XS.dup X8.here hx rfl (hb hby d3_6) rfl rfl k) ?_
  show ownFin _ _ _ _ _ (T8.setTop (mkF m 7 #[.val (.ref a1), .val (.int p1)] [(.ref a1), (.ref a1)]))
  obtain ⟨T9, X9, e9, st9⟩ := getF X8 hx hZ hown (host := "") (Or.inl (hw _ (List.mem_of_getElem? (i := 22) rfl))) Via.refl e8 F_a1_position (g := (mkF m 7 #[.val (.ref a1), .val (.int p1)] [(.ref a1), (.ref a1)])) rfl rfl (hb hby d3_7)
  refine ownVia st9 ?_
  show ownFin _ _ _ _ _ (T9.setTop (mkF m 10 #[.val (.ref a1), .val (.int p1)] [(.int pos), (.ref a1)]))
  refine ownVia (fun _ k => XS.iloadN X9.here hx rfl (hb hby d3_10) rfl k) ?_
  show ownFin _ _ _ _ _ (T9.setTop (mkF m 11 #[.val (.ref a1), .val (.int p1)] [(.int p1), (.int pos), (.ref a1)]))
  refine ownVia (fun _ k => XS.iadd X9.here hx rfl (hb hby d3_11) rfl k) ?_
  show ownFin _ _ _ _ _ (T9.setTop (mkF m 12 #[.val (.ref a1), .val (.int p1)] [(.int (pos + p1)), (.ref a1)]))
  obtain ⟨T10, h10, X10, e10, W10, st10⟩ := putF X9 hx hZ hown (host := "") (Or.inl (hw _ (List.mem_of_getElem? (i := 22) rfl))) Via.refl e9 F_a1_position E_a1 (Or.inl (hw _ (List.mem_of_getElem? (i := 23) rfl))) (hw _ (List.mem_of_getElem? (i := 2) rfl)) (ty := .int) (by decide) rfl rfl (g := (mkF m 12 #[.val (.ref a1), .val (.int p1)] [(.int (pos + p1)), (.ref a1)])) rfl rfl (hb hby d3_12)
  have N10 := Fr.snoc X10 N8 ge_a1
  have F_a1_position := F_a1_position.same W10
  have F_a1_bytes := F_a1_bytes.other W10 (Or.inr (slot_ne (Or.inr (hw _ (List.mem_of_getElem? (i := 12) rfl))) (Or.inl (hw _ (List.mem_of_getElem? (i := 23) rfl))) (by decide) (t := (.array .byte)) (t' := .int) (by decide) (by decide)))
  have E_a1 := E_a1.wr W10
  have A_b1 := A_b1.other W10 (Ne.symm ne_a1_b1)
  have K0 := K0.wr W10 (Or.inl (List.mem_of_getElem? (i := 0) rfl))
  have Z0 := own_szW Z0 W10
  refine ownVia st10 ?_
  show ownFin _ _ _ _ _ (T10.setTop (mkF m 15 #[.val (.ref a1), .val (.int p1)] []))
  refine ownRetV X10 hx hlk hret (hb hby d3_15) (by decide) (by decide) ?_
  show (Q_own_skip Z a1 p1 h0 n0 b1 k_b1 z pos vs dv) none T10.heap _
  rw [e10]
  exact ⟨rfl, N10, K0, F_a1_bytes, F_a1_position⟩
theorem d5_0 : decode prog_10_method_12_code 0 = .ok (.aload_n 0, 1) := by decide +kernel
theorem d5_1 : decode prog_10_method_12_code 1 = .ok (.getfield 17, 3) := by decide +kernel
theorem d5_4 : decode prog_10_method_12_code 4 = .ok (.aload_n 0, 1) := by decide +kernel
theorem d5_5 : decode prog_10_method_12_code 5 = .ok (.getfield 7, 3) := by decide +kernel
theorem d5_8 : decode prog_10_method_12_code 8 = .ok (.arraylength, 1) := by decide +kernel
theorem d5_9 : decode prog_10_method_12_code 9 = .ok (.if_icmp .ne 7, 3) := by decide +kernel
theorem d5_12 : decode prog_10_method_12_code 12 = .ok (.iconst 1, 1) := by decide +kernel
theorem d5_13 : decode prog_10_method_12_code 13 = .ok (.goto 4, 3) := by decide +kernel
theorem d5_16 : decode prog_10_method_12_code 16 = .ok (.iconst 0, 1) := by decide +kernel
theorem d5_17 : decode prog_10_method_12_code 17 = .ok (.ireturn, 1) := by decide +kernel
theorem own_ef11 (m : MethodId) (a1 : Addr) : entryFrame m #[(.ref a1)] 1 = mkF m 0 #[.val (.ref a1)] [] := by first | (simp [entryFrame, mkF, argsToLocals, Value.category]; done) | rfl
def Q_own_atend (Z : State) (a1 : Addr) (h0 : Heap) (n0 : Nat) (b1 : Addr) (k_b1 : ClassId) (z pos : Int32) (vs : List Value) (dv : Value) : Option Value → Heap → List Loc → Prop := fun v h L => v = some (.int (own_ae pos z)) ∧ Fr n0 L ∧ h = h0
set_option maxRecDepth 65536 in
set_option maxHeartbeats 40000000 in
theorem own_atend (l : Launch) (Z : State) (a0 : Array Value) (hw : ∀ d ∈ tables_1, d.before a0 Z = true)  (a1 : Addr) (h0 : Heap) (n0 : Nat) (b1 : Addr) (k_b1 : ClassId) (z pos : Int32) (vs : List Value) (dv : Value) (Z0 : n0 ≤ h0.size) (F_a1_bytes : Fld Z h0 a1 "com/example/laiskas/laiskas/protocol/Decoder" "bytes" "[B" (.ref b1)) (F_a1_position : Fld Z h0 a1 "com/example/laiskas/laiskas/protocol/Decoder" "position" "I" (.int pos)) (E_a1 : Exa Z h0 a1 "com/example/laiskas/laiskas/protocol/Decoder") (A_b1 : Arv Z h0 b1 k_b1 .byte z vs dv) (ne_a1_b1 : a1 ≠ b1) :
    ownMet l Z (⟨"com/example/laiskas/laiskas/protocol/Decoder", "atEnd", "()Z"⟩ : MethodName) prog_10_method_12_code 1 (some .boolean) [] ({ frames := 0, cells := 0, slots := 0, locals := 0 } : Room) #[(.ref a1)] h0 (Q_own_atend Z a1 h0 n0 b1 k_b1 z pos vs dv) := by
  refine ownBody (plainFor_of_name own_pn0) ?_
  intro p e s m below meth c T0 hx hby hml hret hlk hZ hown hnm X0 e0
  have N0 : Fr n0 [] := Fr.nil n0
  refine ownVia (fun _ k => castTop (own_ef11 m a1) k) ?_
  show ownFin _ _ _ _ _ (T0.setTop (mkF m 0 #[.val (.ref a1)] []))
  refine ownVia (fun _ k => XS.aloadN X0.here hx rfl (hb hby d5_0) rfl rfl k) ?_
  show ownFin _ _ _ _ _ (T0.setTop (mkF m 1 #[.val (.ref a1)] [(.ref a1)]))
  obtain ⟨T12, X12, e12, st12⟩ := getF X0 hx hZ hown (host := "") (Or.inl (hw _ (List.mem_of_getElem? (i := 22) rfl))) Via.refl e0 F_a1_position (g := (mkF m 1 #[.val (.ref a1)] [(.ref a1)])) rfl rfl (hb hby d5_1)
  refine ownVia st12 ?_
  show ownFin _ _ _ _ _ (T12.setTop (mkF m 4 #[.val (.ref a1)] [(.int pos)]))
  refine ownVia (fun _ k => XS.aloadN X12.here hx rfl (hb hby d5_4) rfl rfl k) ?_
  show ownFin _ _ _ _ _ (T12.setTop (mkF m 5 #[.val (.ref a1)] [(.ref a1), (.int pos)]))
  obtain ⟨T13, X13, e13, st13⟩ := getF X12 hx hZ hown (host := "") (Or.inl (hw _ (List.mem_of_getElem? (i := 11) rfl))) Via.refl e12 F_a1_bytes (g := (mkF m 5 #[.val (.ref a1)] [(.ref a1), (.int pos)])) rfl rfl (hb hby d5_5)
  refine ownVia st13 ?_
  show ownFin _ _ _ _ _ (T13.setTop (mkF m 8 #[.val (.ref a1)] [(.ref b1), (.int pos)]))
  refine ownLen X13 hx hZ e13 A_b1 (hb hby d5_8) ?_
  show ownFin _ _ _ _ _ (T13.setTop (mkF m 9 #[.val (.ref a1)] [(.int z), (.int pos)]))
  by_cases hc14 : pos = z
  case pos =>
    have hc14I : pos.toInt = z.toInt := (own_eqi rfl rfl).mp hc14
    refine ownVia (fun _ k => XS.icmpNo X13.here hx rfl (hb hby d5_9) rfl (teq hc14).2 k) ?_
    show ownFin _ _ _ _ _ (T13.setTop (mkF m 12 #[.val (.ref a1)] []))
    refine ownVia (fun _ k => XS.iconst X13.here hx rfl (hb hby d5_12) k) ?_
    show ownFin _ _ _ _ _ (T13.setTop (mkF m 13 #[.val (.ref a1)] [(.int (1 : Int32))]))
    refine ownVia (fun _ k => XS.goto X13.here hx rfl (pc0 := 13) (pc' := 17) rfl (hb hby d5_13) (by decide) (by decide) k) ?_
    show ownFin _ _ _ _ _ (T13.setTop (mkF m 17 #[.val (.ref a1)] [(.int (1 : Int32))]))
    refine ownRetZ X13 hx hlk hret (hb hby d5_17) (by decide) (by decide) (Or.inr rfl) ?_
    show (Q_own_atend Z a1 h0 n0 b1 k_b1 z pos vs dv) (some (.int (1 : Int32))) T13.heap _
    rw [e13]
    exact ⟨by rw [own_ae1 hc14], N0, rfl⟩
  case neg =>
    have hc14I : ¬ pos.toInt = z.toInt := fun q => hc14 ((own_eqi rfl rfl).mpr q)
    refine ownVia (fun _ k => XS.icmpYes X13.here hx rfl (pc0 := 9) (pc' := 16) rfl (hb hby d5_9) rfl (feq hc14).2 (by decide) (by decide) k) ?_
    show ownFin _ _ _ _ _ (T13.setTop (mkF m 16 #[.val (.ref a1)] []))
    refine ownVia (fun _ k => XS.iconst X13.here hx rfl (hb hby d5_16) k) ?_
    show ownFin _ _ _ _ _ (T13.setTop (mkF m 17 #[.val (.ref a1)] [(.int (0 : Int32))]))
    refine ownRetZ X13 hx hlk hret (hb hby d5_17) (by decide) (by decide) (Or.inl rfl) ?_
    show (Q_own_atend Z a1 h0 n0 b1 k_b1 z pos vs dv) (some (.int (0 : Int32))) T13.heap _
    rw [e13]
    exact ⟨by rw [own_ae0 hc14], N0, rfl⟩
theorem d10_0 : decode jdk_29_method_69_code 0 = .ok (.iload_n 0, 1) := by decide +kernel
theorem d10_1 : decode jdk_29_method_69_code 1 = .ok (.iload_n 1, 1) := by decide +kernel
theorem d10_2 : decode jdk_29_method_69_code 2 = .ok (.if_icmp .gt 7, 3) := by decide +kernel
theorem d10_5 : decode jdk_29_method_69_code 5 = .ok (.iload_n 0, 1) := by decide +kernel
theorem d10_6 : decode jdk_29_method_69_code 6 = .ok (.goto 4, 3) := by decide +kernel
theorem d10_9 : decode jdk_29_method_69_code 9 = .ok (.iload_n 1, 1) := by decide +kernel
theorem d10_10 : decode jdk_29_method_69_code 10 = .ok (.ireturn, 1) := by decide +kernel
theorem own_ef15 (m : MethodId) (p1 : Int32) (p2 : Int32) : entryFrame m #[(.int p1), (.int p2)] 2 = mkF m 0 #[.val (.int p1), .val (.int p2)] [] := by first | (simp [entryFrame, mkF, argsToLocals, Value.category]; done) | rfl
def Q_own_min (Z : State) (p1 : Int32) (p2 : Int32) (h0 : Heap) (n0 : Nat)  : Option Value → Heap → List Loc → Prop := fun v h L => v = some (.int (own_mn p1 p2)) ∧ Fr n0 L ∧ h = h0
set_option maxRecDepth 65536 in
set_option maxHeartbeats 40000000 in
theorem own_min (l : Launch) (Z : State) (a0 : Array Value) (hw : ∀ d ∈ tables_1, d.before a0 Z = true)  (p1 : Int32) (p2 : Int32) (h0 : Heap) (n0 : Nat)  (Z0 : n0 ≤ h0.size)  :
    ownMet l Z (⟨"java/lang/Math", "min", "(II)I"⟩ : MethodName) jdk_29_method_69_code 2 (some .int) [] ({ frames := 0, cells := 0, slots := 0, locals := 0 } : Room) #[(.int p1), (.int p2)] h0 (Q_own_min Z p1 p2 h0 n0 ) := by
  refine ownBody (Jvm.Free.JP.mathPlain rfl (by decide +kernel)) ?_
  intro p e s m below meth c T0 hx hby hml hret hlk hZ hown hnm X0 e0
  have N0 : Fr n0 [] := Fr.nil n0
  refine ownVia (fun _ k => castTop (own_ef15 m p1 p2) k) ?_
  show ownFin _ _ _ _ _ (T0.setTop (mkF m 0 #[.val (.int p1), .val (.int p2)] []))
  refine ownVia (fun _ k => XS.iloadN X0.here hx rfl (hb hby d10_0) rfl k) ?_
  show ownFin _ _ _ _ _ (T0.setTop (mkF m 1 #[.val (.int p1), .val (.int p2)] [(.int p1)]))
  refine ownVia (fun _ k => XS.iloadN X0.here hx rfl (hb hby d10_1) rfl k) ?_
  show ownFin _ _ _ _ _ (T0.setTop (mkF m 2 #[.val (.int p1), .val (.int p2)] [(.int p2), (.int p1)]))
  by_cases hc16 : p2 < p1
  case pos =>
    have hc16I : p2.toInt < p1.toInt := (own_lti rfl rfl).mp hc16
    refine ownVia (fun _ k => XS.icmpYes X0.here hx rfl (pc0 := 2) (pc' := 9) rfl (hb hby d10_2) rfl (tlt hc16).2.2.1 (by decide) (by decide) k) ?_
    show ownFin _ _ _ _ _ (T0.setTop (mkF m 9 #[.val (.int p1), .val (.int p2)] []))
    refine ownVia (fun _ k => XS.iloadN X0.here hx rfl (hb hby d10_9) rfl k) ?_
    show ownFin _ _ _ _ _ (T0.setTop (mkF m 10 #[.val (.int p1), .val (.int p2)] [(.int p2)]))
    refine ownRetI X0 hx hlk hret (hb hby d10_10) (by decide) (by decide) ?_
    show (Q_own_min Z p1 p2 h0 n0 ) (some (.int p2)) T0.heap _
    rw [e0]
    exact ⟨by rw [own_mn_t hc16], N0, rfl⟩
  case neg =>
    have hc16I : ¬ p2.toInt < p1.toInt := fun q => hc16 ((own_lti rfl rfl).mpr q)
    refine ownVia (fun _ k => XS.icmpNo X0.here hx rfl (hb hby d10_2) rfl (flt hc16).2.2.1 k) ?_
    show ownFin _ _ _ _ _ (T0.setTop (mkF m 5 #[.val (.int p1), .val (.int p2)] []))
    refine ownVia (fun _ k => XS.iloadN X0.here hx rfl (hb hby d10_5) rfl k) ?_
    show ownFin _ _ _ _ _ (T0.setTop (mkF m 6 #[.val (.int p1), .val (.int p2)] [(.int p1)]))
    refine ownVia (fun _ k => XS.goto X0.here hx rfl (pc0 := 6) (pc' := 10) rfl (hb hby d10_6) (by decide) (by decide) k) ?_
    show ownFin _ _ _ _ _ (T0.setTop (mkF m 10 #[.val (.int p1), .val (.int p2)] [(.int p1)]))
    refine ownRetI X0 hx hlk hret (hb hby d10_10) (by decide) (by decide) ?_
    show (Q_own_min Z p1 p2 h0 n0 ) (some (.int p1)) T0.heap _
    rw [e0]
    exact ⟨by rw [own_mn_f hc16], N0, rfl⟩
theorem d9_0 : decode jdk_65_method_131_code 0 = .ok (.iload_n 1, 1) := by decide +kernel
theorem d9_1 : decode jdk_65_method_131_code 1 = .ok (.iload_n 0, 1) := by decide +kernel
theorem d9_2 : decode jdk_65_method_131_code 2 = .ok (.if_icmp .ge 35, 3) := by decide +kernel
theorem d9_5 : decode jdk_65_method_131_code 5 = .ok (.new 43, 3) := by decide +kernel
theorem d9_8 : decode jdk_65_method_131_code 8 = .ok (.dup, 1) := by decide +kernel
theorem d9_9 : decode jdk_65_method_131_code 9 = .ok (.new 45, 3) := by decide +kernel
theorem d9_12 : decode jdk_65_method_131_code 12 = .ok (.dup, 1) := by decide +kernel
theorem d9_13 : decode jdk_65_method_131_code 13 = .ok (.invokespecial 47, 3) := by decide +kernel
theorem d9_16 : decode jdk_65_method_131_code 16 = .ok (.iload_n 0, 1) := by decide +kernel
theorem d9_17 : decode jdk_65_method_131_code 17 = .ok (.invokevirtual 54, 3) := by decide +kernel
theorem d9_20 : decode jdk_65_method_131_code 20 = .ok (.ldc_w 337, 3) := by decide +kernel
theorem d9_23 : decode jdk_65_method_131_code 23 = .ok (.invokevirtual 50, 3) := by decide +kernel
theorem d9_26 : decode jdk_65_method_131_code 26 = .ok (.iload_n 1, 1) := by decide +kernel
theorem d9_27 : decode jdk_65_method_131_code 27 = .ok (.invokevirtual 54, 3) := by decide +kernel
theorem d9_30 : decode jdk_65_method_131_code 30 = .ok (.invokevirtual 61, 3) := by decide +kernel
theorem d9_33 : decode jdk_65_method_131_code 33 = .ok (.invokespecial 65, 3) := by decide +kernel
theorem d9_36 : decode jdk_65_method_131_code 36 = .ok (.athrow, 1) := by decide +kernel
theorem d9_37 : decode jdk_65_method_131_code 37 = .ok (.return_, 1) := by decide +kernel
theorem own_pn1 : plainName "java/util/Arrays" = true := by first | (simp [plainName, overriddenIn]; done) | decide +kernel
theorem own_ef17 (m : MethodId) (p1 : Int32) (p2 : Int32) : entryFrame m #[(.int p1), (.int p2)] 2 = mkF m 0 #[.val (.int p1), .val (.int p2)] [] := by first | (simp [entryFrame, mkF, argsToLocals, Value.category]; done) | rfl
def Q_own_cl (Z : State) (p1 : Int32) (p2 : Int32) (h0 : Heap) (n0 : Nat)  : Option Value → Heap → List Loc → Prop := fun v h L => v = none ∧ Fr n0 L ∧ h = h0
set_option maxRecDepth 65536 in
set_option maxHeartbeats 40000000 in
theorem own_cl (l : Launch) (Z : State) (a0 : Array Value) (hw : ∀ d ∈ tables_1, d.before a0 Z = true)  (p1 : Int32) (p2 : Int32) (h0 : Heap) (n0 : Nat)  (Z0 : n0 ≤ h0.size) (hcl : ¬ p2 < p1) :
    ownMet l Z (⟨"java/util/Arrays", "checkLength", "(II)V"⟩ : MethodName) jdk_65_method_131_code 2 none [] ({ frames := 0, cells := 0, slots := 0, locals := 0 } : Room) #[(.int p1), (.int p2)] h0 (Q_own_cl Z p1 p2 h0 n0 ) := by
  refine ownBody (plainFor_of_name own_pn1) ?_
  intro p e s m below meth c T0 hx hby hml hret hlk hZ hown hnm X0 e0
  have N0 : Fr n0 [] := Fr.nil n0
  refine ownVia (fun _ k => castTop (own_ef17 m p1 p2) k) ?_
  show ownFin _ _ _ _ _ (T0.setTop (mkF m 0 #[.val (.int p1), .val (.int p2)] []))
  refine ownVia (fun _ k => XS.iloadN X0.here hx rfl (hb hby d9_0) rfl k) ?_
  show ownFin _ _ _ _ _ (T0.setTop (mkF m 1 #[.val (.int p1), .val (.int p2)] [(.int p2)]))
  refine ownVia (fun _ k => XS.iloadN X0.here hx rfl (hb hby d9_1) rfl k) ?_
  show ownFin _ _ _ _ _ (T0.setTop (mkF m 2 #[.val (.int p1), .val (.int p2)] [(.int p1), (.int p2)]))
  refine ownVia (fun _ k => XS.icmpYes X0.here hx rfl (pc0 := 2) (pc' := 37) rfl (hb hby d9_2) rfl (flt hcl).2.1 (by decide) (by decide) k) ?_
  show ownFin _ _ _ _ _ (T0.setTop (mkF m 37 #[.val (.int p1), .val (.int p2)] []))
  refine ownRetV X0 hx hlk hret (hb hby d9_37) (by decide) (by decide) ?_
  show (Q_own_cl Z p1 p2 h0 n0 ) none T0.heap _
  rw [e0]
  exact ⟨rfl, N0, rfl⟩
theorem d8_0 : decode jdk_65_method_133_code 0 = .ok (.iload_n 1, 1) := by decide +kernel
theorem d8_1 : decode jdk_65_method_133_code 1 = .ok (.iload_n 2, 1) := by decide +kernel
theorem d8_2 : decode jdk_65_method_133_code 2 = .ok (.invokestatic 343, 3) := by decide +kernel
theorem d8_5 : decode jdk_65_method_133_code 5 = .ok (.iload_n 2, 1) := by decide +kernel
theorem d8_6 : decode jdk_65_method_133_code 6 = .ok (.iload_n 1, 1) := by decide +kernel
theorem d8_7 : decode jdk_65_method_133_code 7 = .ok (.isub, 1) := by decide +kernel
theorem d8_8 : decode jdk_65_method_133_code 8 = .ok (.istore_n 3, 1) := by decide +kernel
theorem d8_9 : decode jdk_65_method_133_code 9 = .ok (.iload_n 3, 1) := by decide +kernel
theorem d8_10 : decode jdk_65_method_133_code 10 = .ok (.newarray .byte, 2) := by decide +kernel
theorem d8_12 : decode jdk_65_method_133_code 12 = .ok (.astore 4, 2) := by decide +kernel
theorem d8_14 : decode jdk_65_method_133_code 14 = .ok (.aload_n 0, 1) := by decide +kernel
theorem d8_15 : decode jdk_65_method_133_code 15 = .ok (.iload_n 1, 1) := by decide +kernel
theorem d8_16 : decode jdk_65_method_133_code 16 = .ok (.aload 4, 2) := by decide +kernel
theorem d8_18 : decode jdk_65_method_133_code 18 = .ok (.iconst 0, 1) := by decide +kernel
theorem d8_19 : decode jdk_65_method_133_code 19 = .ok (.aload_n 0, 1) := by decide +kernel
theorem d8_20 : decode jdk_65_method_133_code 20 = .ok (.arraylength, 1) := by decide +kernel
theorem d8_21 : decode jdk_65_method_133_code 21 = .ok (.iload_n 1, 1) := by decide +kernel
theorem d8_22 : decode jdk_65_method_133_code 22 = .ok (.isub, 1) := by decide +kernel
theorem d8_23 : decode jdk_65_method_133_code 23 = .ok (.iload_n 3, 1) := by decide +kernel
theorem d8_24 : decode jdk_65_method_133_code 24 = .ok (.invokestatic 304, 3) := by decide +kernel
theorem d8_27 : decode jdk_65_method_133_code 27 = .ok (.invokestatic 150, 3) := by decide +kernel
theorem d8_30 : decode jdk_65_method_133_code 30 = .ok (.aload 4, 2) := by decide +kernel
theorem d8_32 : decode jdk_65_method_133_code 32 = .ok (.areturn, 1) := by decide +kernel
theorem own_ef18 (m : MethodId) (a1 : Addr) (p1 : Int32) (p2 : Int32) : entryFrame m #[(.ref a1), (.int p1), (.int p2)] 5 = mkF m 0 #[.val (.ref a1), .val (.int p1), .val (.int p2), .unset, .unset] [] := by first | (simp [entryFrame, mkF, argsToLocals, Value.category]; done) | rfl
def Q_own_crb (Z : State) (a1 : Addr) (p1 : Int32) (p2 : Int32) (h0 : Heap) (n0 : Nat) (k_a1 : ClassId) (z : Int32) (vs : List Value) (i j lz : Nat) : Option Value → Heap → List Loc → Prop := fun v h L => ∃ b kb, v = some (.ref b) ∧ Fr n0 L ∧ Keep h0 h [] ∧ h0.size ≤ b ∧ Exa Z h b "[B" ∧ Arv Z h b kb .byte (p2 - p1) ((List.range (j - i)).map fun x => vs.getD (i + x) (.int (0 : Int32))) (.int (0 : Int32))
theorem own_pd1 : parseMethodDescriptor "(II)V" = some ⟨[.int, .int], none⟩ := by decide +kernel
theorem own_pd2 : parseMethodDescriptor "(II)I" = some ⟨[.int, .int], some .int⟩ := by decide +kernel
set_option maxRecDepth 65536 in
set_option maxHeartbeats 40000000 in
theorem own_crb (l : Launch) (Z : State) (a0 : Array Value) (hw : ∀ d ∈ tables_1, d.before a0 Z = true)  (a1 : Addr) (p1 : Int32) (p2 : Int32) (h0 : Heap) (n0 : Nat) (k_a1 : ClassId) (z : Int32) (vs : List Value) (i j lz : Nat) (Z0 : n0 ≤ h0.size) (A_a1 : Arv Z h0 a1 k_a1 .byte z vs (.int (0 : Int32))) (E_a1 : Exa Z h0 a1 "[B") (hi : p1.toInt = (i : Int)) (hj : p2.toInt = (j : Int)) (hz : z.toInt = (lz : Int)) (hvl : vs.length = lz) (hij : i ≤ j) (hjz : j ≤ lz) (hcap : j - i ≤ 8) :
    ownMet l Z (⟨"java/util/Arrays", "copyOfRangeByte", "([BII)[B"⟩ : MethodName) jdk_65_method_133_code 5 (some (.array .byte)) [] ({ frames := 1, cells := 1, slots := 8, locals := 60 } : Room) #[(.ref a1), (.int p1), (.int p2)] h0 (Q_own_crb Z a1 p1 p2 h0 n0 k_a1 z vs i j lz) := by
  refine ownBody (plainFor_of_name own_pn1) ?_
  intro p e s m below meth c T0 hx hby hml hret hlk hZ hown hnm X0 e0
  have N0 : Fr n0 [] := Fr.nil n0
  refine ownVia (fun _ k => castTop (own_ef18 m a1 p1 p2) k) ?_
  show ownFin _ _ _ _ _ (T0.setTop (mkF m 0 #[.val (.ref a1), .val (.int p1), .val (.int p2), .unset, .unset] []))
  have K0 : Keep h0 h0 [] := Keep.refl _ _
  have hd : (p2 - p1).toInt = ((j - i : Nat) : Int) := own_sub hj hi hij
  refine ownVia (fun _ k => XS.iloadN X0.here hx rfl (hb hby d8_0) rfl k) ?_
  show ownFin _ _ _ _ _ (T0.setTop (mkF m 1 #[.val (.ref a1), .val (.int p1), .val (.int p2), .unset, .unset] [(.int p1)]))
  refine ownVia (fun _ k => XS.iloadN X0.here hx rfl (hb hby d8_1) rfl k) ?_
  show ownFin _ _ _ _ _ (T0.setTop (mkF m 2 #[.val (.ref a1), .val (.int p1), .val (.int p2), .unset, .unset] [(.int p2), (.int p1)]))
  refine ownCallS X0 hx hZ hown (hw _ (List.mem_of_getElem? (i := 50) rfl)) (hw _ (List.mem_of_getElem? (i := 51) rfl)) (hw _ (List.mem_of_getElem? (i := 36) rfl)) (hw _ (List.mem_of_getElem? (i := 52) rfl)) (by decide) e0 (own_cl l Z a0 hw p1 p2 h0 n0 Z0 (own_nlt hj hi (by omega))) (by rw [hml]; rfl) [(.int p1), (.int p2)] [] (lenOf own_pd1 rfl) rfl rfl 0 rfl (hb hby d8_2) (by decide) (by decide) (by decide) (by decide) ?_
  intro v19 T19 L19 X19 hq19
  obtain ⟨rfl, N19q, eq19⟩ := hq19
  have N19 := Fr.app N0 N19q
  have e19 : T19.heap = h0 := eq19
  show ownFin _ _ _ _ _ (T19.setTop (mkF m 5 #[.val (.ref a1), .val (.int p1), .val (.int p2), .unset, .unset] []))
  refine ownVia (fun _ k => XS.iloadN X19.here hx rfl (hb hby d8_5) rfl k) ?_
  show ownFin _ _ _ _ _ (T19.setTop (mkF m 6 #[.val (.ref a1), .val (.int p1), .val (.int p2), .unset, .unset] [(.int p2)]))
  refine ownVia (fun _ k => XS.iloadN X19.here hx rfl (hb hby d8_6) rfl k) ?_
  show ownFin _ _ _ _ _ (T19.setTop (mkF m 7 #[.val (.ref a1), .val (.int p1), .val (.int p2), .unset, .unset] [(.int p1), (.int p2)]))
  refine ownVia (fun _ k => XS.isub X19.here hx rfl (hb hby d8_7) rfl k) ?_
  show ownFin _ _ _ _ _ (T19.setTop (mkF m 8 #[.val (.ref a1), .val (.int p1), .val (.int p2), .unset, .unset] [(.int (p2 - p1))]))
  refine ownVia (fun _ k => XS.istoreN X19.here hx rfl (hb hby d8_8) rfl (l' := #[.val (.ref a1), .val (.int p1), .val (.int p2), .val (.int (p2 - p1)), .unset]) rfl k) ?_
  show ownFin _ _ _ _ _ (T19.setTop (mkF m 9 #[.val (.ref a1), .val (.int p1), .val (.int p2), .val (.int (p2 - p1)), .unset] []))
  refine ownVia (fun _ k => XS.iloadN X19.here hx rfl (hb hby d8_9) rfl k) ?_
  show ownFin _ _ _ _ _ (T19.setTop (mkF m 10 #[.val (.ref a1), .val (.int p1), .val (.int p2), .val (.int (p2 - p1)), .unset] [(.int (p2 - p1))]))
  refine ownNewP X19 hx hZ (hw _ (List.mem_of_getElem? (i := 4) rfl)) e19 "[B" (by decide) (own_nneg hd) (j - i) (own_clamp hd) (8) hcap (by decide) (by decide) (by decide) (hb hby d8_10) ?_
  intro T20 h20 k_b1 b1 g20 X20 e20 E20 A_b1 E_b1
  have ne_a1_b1 : a1 ≠ b1 := Nat.ne_of_lt (Nat.lt_of_lt_of_le A_a1.lt (Nat.le_of_eq g20.symm))
  have ge_b1 : n0 ≤ b1 := Nat.le_trans Z0 (Nat.le_of_eq g20.symm)
  have sz_b1 : h0.size ≤ b1 := Nat.le_trans K0.1 (Nat.le_of_eq g20.symm)
  have A_a1 := A_a1.ext E20
  have E_a1 := E_a1.ext E20
  have K0 := K0.ext E20
  have Z0 := own_sz Z0 E20
  have A_b1 : Arv Z h20 b1 k_b1 .byte (p2 - p1) (List.replicate (j - i) (.int (0 : Int32))) (.int (0 : Int32)) := A_b1
  show ownFin _ _ _ _ _ (T20.setTop (mkF m 12 #[.val (.ref a1), .val (.int p1), .val (.int p2), .val (.int (p2 - p1)), .unset] [(.ref b1)]))
  refine ownVia (fun _ k => XS.astore X20.here hx rfl (hb hby d8_12) rfl rfl (l' := #[.val (.ref a1), .val (.int p1), .val (.int p2), .val (.int (p2 - p1)), .val (.ref b1)]) rfl k) ?_
  show ownFin _ _ _ _ _ (T20.setTop (mkF m 14 #[.val (.ref a1), .val (.int p1), .val (.int p2), .val (.int (p2 - p1)), .val (.ref b1)] []))
  refine ownVia (fun _ k => XS.aloadN X20.here hx rfl (hb hby d8_14) rfl rfl k) ?_
  show ownFin _ _ _ _ _ (T20.setTop (mkF m 15 #[.val (.ref a1), .val (.int p1), .val (.int p2), .val (.int (p2 - p1)), .val (.ref b1)] [(.ref a1)]))
  refine ownVia (fun _ k => XS.iloadN X20.here hx rfl (hb hby d8_15) rfl k) ?_
  show ownFin _ _ _ _ _ (T20.setTop (mkF m 16 #[.val (.ref a1), .val (.int p1), .val (.int p2), .val (.int (p2 - p1)), .val (.ref b1)] [(.int p1), (.ref a1)]))
  refine ownVia (fun _ k => XS.aload X20.here hx rfl (hb hby d8_16) rfl rfl k) ?_
  show ownFin _ _ _ _ _ (T20.setTop (mkF m 18 #[.val (.ref a1), .val (.int p1), .val (.int p2), .val (.int (p2 - p1)), .val (.ref b1)] [(.ref b1), (.int p1), (.ref a1)]))
  refine ownVia (fun _ k => XS.iconst X20.here hx rfl (hb hby d8_18) k) ?_
  show ownFin _ _ _ _ _ (T20.setTop (mkF m 19 #[.val (.ref a1), .val (.int p1), .val (.int p2), .val (.int (p2 - p1)), .val (.ref b1)] [(.int (0 : Int32)), (.ref b1), (.int p1), (.ref a1)]))
  refine ownVia (fun _ k => XS.aloadN X20.here hx rfl (hb hby d8_19) rfl rfl k) ?_
  show ownFin _ _ _ _ _ (T20.setTop (mkF m 20 #[.val (.ref a1), .val (.int p1), .val (.int p2), .val (.int (p2 - p1)), .val (.ref b1)] [(.ref a1), (.int (0 : Int32)), (.ref b1), (.int p1), (.ref a1)]))
  refine ownLen X20 hx hZ e20 A_a1 (hb hby d8_20) ?_
  show ownFin _ _ _ _ _ (T20.setTop (mkF m 21 #[.val (.ref a1), .val (.int p1), .val (.int p2), .val (.int (p2 - p1)), .val (.ref b1)] [(.int z), (.int (0 : Int32)), (.ref b1), (.int p1), (.ref a1)]))
  refine ownVia (fun _ k => XS.iloadN X20.here hx rfl (hb hby d8_21) rfl k) ?_
  show ownFin _ _ _ _ _ (T20.setTop (mkF m 22 #[.val (.ref a1), .val (.int p1), .val (.int p2), .val (.int (p2 - p1)), .val (.ref b1)] [(.int p1), (.int z), (.int (0 : Int32)), (.ref b1), (.int p1), (.ref a1)]))
  refine ownVia (fun _ k => XS.isub X20.here hx rfl (hb hby d8_22) rfl k) ?_
  show ownFin _ _ _ _ _ (T20.setTop (mkF m 23 #[.val (.ref a1), .val (.int p1), .val (.int p2), .val (.int (p2 - p1)), .val (.ref b1)] [(.int (z - p1)), (.int (0 : Int32)), (.ref b1), (.int p1), (.ref a1)]))
  refine ownVia (fun _ k => XS.iloadN X20.here hx rfl (hb hby d8_23) rfl k) ?_
  show ownFin _ _ _ _ _ (T20.setTop (mkF m 24 #[.val (.ref a1), .val (.int p1), .val (.int p2), .val (.int (p2 - p1)), .val (.ref b1)] [(.int (p2 - p1)), (.int (z - p1)), (.int (0 : Int32)), (.ref b1), (.int p1), (.ref a1)]))
  refine ownCallS X20 hx hZ hown (hw _ (List.mem_of_getElem? (i := 53) rfl)) (hw _ (List.mem_of_getElem? (i := 54) rfl)) (hw _ (List.mem_of_getElem? (i := 55) rfl)) (hw _ (List.mem_of_getElem? (i := 56) rfl)) (by decide) e20 (own_min l Z a0 hw (z - p1) (p2 - p1) h20 n0 Z0) (by rw [hml]; rfl) [(.int (z - p1)), (.int (p2 - p1))] [(.int (0 : Int32)), (.ref b1), (.int p1), (.ref a1)] (lenOf own_pd2 rfl) rfl rfl 4 rfl (hb hby d8_24) (by decide) (by decide) (by decide) (by decide) ?_
  intro v21 T21 L21 X21 hq21
  obtain ⟨rfl, N21q, eq21⟩ := hq21
  have N21 := Fr.app N19 N21q
  have e21 : T21.heap = h20 := eq21
  show ownFin _ _ _ _ _ (T21.setTop (mkF m 27 #[.val (.ref a1), .val (.int p1), .val (.int p2), .val (.int (p2 - p1)), .val (.ref b1)] [(.int (own_mn (z - p1) (p2 - p1))), (.int (0 : Int32)), (.ref b1), (.int p1), (.ref a1)]))
  have hm : (own_mn (z - p1) (p2 - p1)).toInt = ((j - i : Nat) : Int) := by have q := own_sub hz hi (by omega); rw [own_mn_int, hd, q]; split <;> omega
  refine ownCopy X21 hx hZ hown (hw _ (List.mem_of_getElem? (i := 57) rfl)) (hw _ (List.mem_of_getElem? (i := 60) rfl)) (hw _ (List.mem_of_getElem? (i := 58) rfl)) (hw _ (List.mem_of_getElem? (i := 59) rfl)) e21 A_a1 A_b1 rfl (i) (0) (j - i) (lz) (j - i) hi (by decide) hm hz hd (by omega) (by omega) (by simp) N21 ge_b1 (by rw [hml]; rfl) (hb hby d8_27) (by decide) 0 rfl (by decide) ?_
  intro T22 h22 L22 X22 e22 N22 Kc22 A_b1
  have A_a1 := A_a1.keep Kc22 (ninS ne_a1_b1 nin0)
  have E_a1 := E_a1.keep Kc22
  have E_b1 := E_b1.keep Kc22
  have K0 := K0.trans Kc22 (allS (Or.inr sz_b1) all0)
  have Z0 := Nat.le_trans Z0 Kc22.1
  show ownFin _ _ _ _ _ (T22.setTop (mkF m 30 #[.val (.ref a1), .val (.int p1), .val (.int p2), .val (.int (p2 - p1)), .val (.ref b1)] []))
  rw [own_splice (by simp)] at A_b1
  refine ownVia (fun _ k => XS.aload X22.here hx rfl (hb hby d8_30) rfl rfl k) ?_
  show ownFin _ _ _ _ _ (T22.setTop (mkF m 32 #[.val (.ref a1), .val (.int p1), .val (.int p2), .val (.int (p2 - p1)), .val (.ref b1)] [(.ref b1)]))
  refine ownRetA X22 hx hlk (ty := (.array .byte)) hret rfl (hb hby d8_32) (by decide) (by decide) ?_
  show (Q_own_crb Z a1 p1 p2 h0 n0 k_a1 z vs i j lz) (some (.ref b1)) T22.heap _
  rw [e22]
  exact ⟨b1, k_b1, rfl, N22, K0, sz_b1, E_b1, A_b1⟩
theorem d7_0 : decode jdk_65_method_132_code 0 = .ok (.iload_n 1, 1) := by decide +kernel
theorem d7_1 : decode jdk_65_method_132_code 1 = .ok (.ifCond .ne 9, 3) := by decide +kernel
theorem d7_4 : decode jdk_65_method_132_code 4 = .ok (.iload_n 2, 1) := by decide +kernel
theorem d7_5 : decode jdk_65_method_132_code 5 = .ok (.aload_n 0, 1) := by decide +kernel
theorem d7_6 : decode jdk_65_method_132_code 6 = .ok (.arraylength, 1) := by decide +kernel
theorem d7_7 : decode jdk_65_method_132_code 7 = .ok (.if_icmp .eq 10, 3) := by decide +kernel
theorem d7_10 : decode jdk_65_method_132_code 10 = .ok (.aload_n 0, 1) := by decide +kernel
theorem d7_11 : decode jdk_65_method_132_code 11 = .ok (.iload_n 1, 1) := by decide +kernel
theorem d7_12 : decode jdk_65_method_132_code 12 = .ok (.iload_n 2, 1) := by decide +kernel
theorem d7_13 : decode jdk_65_method_132_code 13 = .ok (.invokestatic 339, 3) := by decide +kernel
theorem d7_16 : decode jdk_65_method_132_code 16 = .ok (.areturn, 1) := by decide +kernel
theorem d7_17 : decode jdk_65_method_132_code 17 = .ok (.aload_n 0, 1) := by decide +kernel
theorem d7_18 : decode jdk_65_method_132_code 18 = .ok (.invokevirtual 310, 3) := by decide +kernel
theorem d7_21 : decode jdk_65_method_132_code 21 = .ok (.checkcast 311, 3) := by decide +kernel
theorem d7_24 : decode jdk_65_method_132_code 24 = .ok (.areturn, 1) := by decide +kernel
theorem own_ef23 (m : MethodId) (a1 : Addr) (p1 : Int32) (p2 : Int32) : entryFrame m #[(.ref a1), (.int p1), (.int p2)] 3 = mkF m 0 #[.val (.ref a1), .val (.int p1), .val (.int p2)] [] := by first | (simp [entryFrame, mkF, argsToLocals, Value.category]; done) | rfl
def Q_own_cr (Z : State) (a1 : Addr) (p1 : Int32) (p2 : Int32) (h0 : Heap) (n0 : Nat) (k_a1 : ClassId) (z : Int32) (vs : List Value) (i j lz : Nat) : Option Value → Heap → List Loc → Prop := fun v h L => ∃ b kb, v = some (.ref b) ∧ Fr n0 L ∧ Keep h0 h [] ∧ h0.size ≤ b ∧ Exa Z h b "[B" ∧ Arv Z h b kb .byte (p2 - p1) ((List.range (j - i)).map fun x => vs.getD (i + x) (.int (0 : Int32))) (.int (0 : Int32))
theorem own_pd3 : parseMethodDescriptor "([BII)[B" = some ⟨[(.array .byte), .int, .int], some (.array .byte)⟩ := by decide +kernel
set_option maxRecDepth 65536 in
set_option maxHeartbeats 40000000 in
theorem own_cr (l : Launch) (Z : State) (a0 : Array Value) (hw : ∀ d ∈ tables_1, d.before a0 Z = true)  (a1 : Addr) (p1 : Int32) (p2 : Int32) (h0 : Heap) (n0 : Nat) (k_a1 : ClassId) (z : Int32) (vs : List Value) (i j lz : Nat) (Z0 : n0 ≤ h0.size) (A_a1 : Arv Z h0 a1 k_a1 .byte z vs (.int (0 : Int32))) (E_a1 : Exa Z h0 a1 "[B") (hi : p1.toInt = (i : Int)) (hj : p2.toInt = (j : Int)) (hz : z.toInt = (lz : Int)) (hvl : vs.length = lz) (hij : i ≤ j) (hjz : j ≤ lz) (hcap : j - i ≤ 8) :
    ownMet l Z (⟨"java/util/Arrays", "copyOfRange", "([BII)[B"⟩ : MethodName) jdk_65_method_132_code 3 (some (.array .byte)) [] ({ frames := 2, cells := 1, slots := 8, locals := 80 } : Room) #[(.ref a1), (.int p1), (.int p2)] h0 (Q_own_cr Z a1 p1 p2 h0 n0 k_a1 z vs i j lz) := by
  refine ownBody (plainFor_of_name own_pn1) ?_
  intro p e s m below meth c T0 hx hby hml hret hlk hZ hown hnm X0 e0
  have N0 : Fr n0 [] := Fr.nil n0
  refine ownVia (fun _ k => castTop (own_ef23 m a1 p1 p2) k) ?_
  show ownFin _ _ _ _ _ (T0.setTop (mkF m 0 #[.val (.ref a1), .val (.int p1), .val (.int p2)] []))
  have K0 : Keep h0 h0 [] := Keep.refl _ _
  refine ownVia (fun _ k => XS.iloadN X0.here hx rfl (hb hby d7_0) rfl k) ?_
  show ownFin _ _ _ _ _ (T0.setTop (mkF m 1 #[.val (.ref a1), .val (.int p1), .val (.int p2)] [(.int p1)]))
  by_cases hc24 : p1 = (0 : Int32)
  case pos =>
    have hc24I : (i : Int) = 0 := (own_eqi hi (by decide)).mp hc24
    refine ownVia (fun _ k => XS.ifNo X0.here hx rfl (hb hby d7_1) rfl ((if0 _ _).trans (teq hc24).2) k) ?_
    show ownFin _ _ _ _ _ (T0.setTop (mkF m 4 #[.val (.ref a1), .val (.int p1), .val (.int p2)] []))
    refine ownVia (fun _ k => XS.iloadN X0.here hx rfl (hb hby d7_4) rfl k) ?_
    show ownFin _ _ _ _ _ (T0.setTop (mkF m 5 #[.val (.ref a1), .val (.int p1), .val (.int p2)] [(.int p2)]))
    refine ownVia (fun _ k => XS.aloadN X0.here hx rfl (hb hby d7_5) rfl rfl k) ?_
    show ownFin _ _ _ _ _ (T0.setTop (mkF m 6 #[.val (.ref a1), .val (.int p1), .val (.int p2)] [(.ref a1), (.int p2)]))
    refine ownLen X0 hx hZ e0 A_a1 (hb hby d7_6) ?_
    show ownFin _ _ _ _ _ (T0.setTop (mkF m 7 #[.val (.ref a1), .val (.int p1), .val (.int p2)] [(.int z), (.int p2)]))
    by_cases hc25 : p2 = z
    case pos =>
      have hc25I : (j : Int) = (lz : Int) := (own_eqi hj hz).mp hc25
      refine ownVia (fun _ k => XS.icmpYes X0.here hx rfl (pc0 := 7) (pc' := 17) rfl (hb hby d7_7) rfl (teq hc25).1 (by decide) (by decide) k) ?_
      show ownFin _ _ _ _ _ (T0.setTop (mkF m 17 #[.val (.ref a1), .val (.int p1), .val (.int p2)] []))
      have hi0 : i = 0 := by omega
      have hjl : j = lz := by omega
      have hzz : p2 - p1 = z := Int32.toInt_inj.mp (by have q := own_sub hj hi hij; rw [q]; omega)
      refine ownVia (fun _ k => XS.aloadN X0.here hx rfl (hb hby d7_17) rfl rfl k) ?_
      show ownFin _ _ _ _ _ (T0.setTop (mkF m 18 #[.val (.ref a1), .val (.int p1), .val (.int p2)] [(.ref a1)]))
      refine ownClone X0 hx hZ hown (hw _ (List.mem_of_getElem? (i := 38) rfl)) (hw _ (List.mem_of_getElem? (i := 39) rfl)) (hw _ (List.mem_of_getElem? (i := 43) rfl)) (hw _ (List.mem_of_getElem? (i := 41) rfl)) (hw _ (List.mem_of_getElem? (i := 42) rfl)) (hw _ (List.mem_of_getElem? (i := 44) rfl)) e0 A_a1 E_a1 (by rw [hml]; rfl) (hb hby d7_18) (by decide) 0 rfl (by decide) (8) (by rw [own_clamp hz]; omega) (by decide) (by decide) ?_
      intro T26 h26 b1 g26 X26 e26 E26 A_b1 E_b1
      have ne_a1_b1 : a1 ≠ b1 := Nat.ne_of_lt (Nat.lt_of_lt_of_le A_a1.lt (Nat.le_of_eq g26.symm))
      have ge_b1 : n0 ≤ b1 := Nat.le_trans Z0 (Nat.le_of_eq g26.symm)
      have sz_b1 : h0.size ≤ b1 := Nat.le_trans K0.1 (Nat.le_of_eq g26.symm)
      have A_a1 := A_a1.ext E26
      have E_a1 := E_a1.ext E26
      have K0 := K0.ext E26
      have Z0 := own_sz Z0 E26
      show ownFin _ _ _ _ _ (T26.setTop (mkF m 21 #[.val (.ref a1), .val (.int p1), .val (.int p2)] [(.ref b1)]))
      refine ownCast X26 hx hZ hown (hw _ (List.mem_of_getElem? (i := 45) rfl)) e26 (Ins.self E_b1) (hb hby d7_21) ?_
      intro T27 X27 e27
      show ownFin _ _ _ _ _ (T27.setTop (mkF m 24 #[.val (.ref a1), .val (.int p1), .val (.int p2)] [(.ref b1)]))
      refine ownRetA X27 hx hlk (ty := (.array .byte)) hret rfl (hb hby d7_24) (by decide) (by decide) ?_
      show (Q_own_cr Z a1 p1 p2 h0 n0 k_a1 z vs i j lz) (some (.ref b1)) T27.heap _
      rw [e27]
      exact ⟨b1, k_a1, rfl, N0, K0, sz_b1, E_b1, by rw [hzz, hi0, hjl, Nat.sub_zero, own_all hvl]; exact A_b1⟩
    case neg =>
      have hc25I : ¬ (j : Int) = (lz : Int) := fun q => hc25 ((own_eqi hj hz).mpr q)
      refine ownVia (fun _ k => XS.icmpNo X0.here hx rfl (hb hby d7_7) rfl (feq hc25).1 k) ?_
      show ownFin _ _ _ _ _ (T0.setTop (mkF m 10 #[.val (.ref a1), .val (.int p1), .val (.int p2)] []))
      refine ownVia (fun _ k => XS.aloadN X0.here hx rfl (hb hby d7_10) rfl rfl k) ?_
      show ownFin _ _ _ _ _ (T0.setTop (mkF m 11 #[.val (.ref a1), .val (.int p1), .val (.int p2)] [(.ref a1)]))
      refine ownVia (fun _ k => XS.iloadN X0.here hx rfl (hb hby d7_11) rfl k) ?_
      show ownFin _ _ _ _ _ (T0.setTop (mkF m 12 #[.val (.ref a1), .val (.int p1), .val (.int p2)] [(.int p1), (.ref a1)]))
      refine ownVia (fun _ k => XS.iloadN X0.here hx rfl (hb hby d7_12) rfl k) ?_
      show ownFin _ _ _ _ _ (T0.setTop (mkF m 13 #[.val (.ref a1), .val (.int p1), .val (.int p2)] [(.int p2), (.int p1), (.ref a1)]))
      refine ownCallS X0 hx hZ hown (hw _ (List.mem_of_getElem? (i := 47) rfl)) (hw _ (List.mem_of_getElem? (i := 48) rfl)) (hw _ (List.mem_of_getElem? (i := 36) rfl)) (hw _ (List.mem_of_getElem? (i := 49) rfl)) (by decide) e0 (own_crb l Z a0 hw a1 p1 p2 h0 n0 k_a1 z vs i j lz Z0 A_a1 E_a1 hi hj hz hvl hij hjz hcap) (by rw [hml]; rfl) [(.ref a1), (.int p1), (.int p2)] [] (lenOf own_pd3 rfl) rfl rfl 0 rfl (hb hby d7_13) (by decide) (by decide) (by decide) (by decide) ?_
      intro v28 T28 L28 X28 hq28
      obtain ⟨b1, kb1, rfl, N28q, K28, sz_b1, E_b1, A_b1⟩ := hq28
      have N28 := Fr.app N0 N28q
      show ownFin _ _ _ _ _ (T28.setTop (mkF m 16 #[.val (.ref a1), .val (.int p1), .val (.int p2)] [(.ref b1)]))
      refine ownRetA X28 hx hlk (ty := (.array .byte)) hret rfl (hb hby d7_16) (by decide) (by decide) ?_
      show (Q_own_cr Z a1 p1 p2 h0 n0 k_a1 z vs i j lz) (some (.ref b1)) T28.heap _
      exact ⟨b1, kb1, rfl, N28, K28, sz_b1, E_b1, A_b1⟩
  case neg =>
    have hc24I : ¬ (i : Int) = 0 := fun q => hc24 ((own_eqi hi (by decide)).mpr q)
    refine ownVia (fun _ k => XS.ifYes X0.here hx rfl (pc0 := 1) (pc' := 10) rfl (hb hby d7_1) rfl ((if0 _ _).trans (feq hc24).2) (by decide) (by decide) k) ?_
    show ownFin _ _ _ _ _ (T0.setTop (mkF m 10 #[.val (.ref a1), .val (.int p1), .val (.int p2)] []))
    refine ownVia (fun _ k => XS.aloadN X0.here hx rfl (hb hby d7_10) rfl rfl k) ?_
    show ownFin _ _ _ _ _ (T0.setTop (mkF m 11 #[.val (.ref a1), .val (.int p1), .val (.int p2)] [(.ref a1)]))
    refine ownVia (fun _ k => XS.iloadN X0.here hx rfl (hb hby d7_11) rfl k) ?_
    show ownFin _ _ _ _ _ (T0.setTop (mkF m 12 #[.val (.ref a1), .val (.int p1), .val (.int p2)] [(.int p1), (.ref a1)]))
    refine ownVia (fun _ k => XS.iloadN X0.here hx rfl (hb hby d7_12) rfl k) ?_
    show ownFin _ _ _ _ _ (T0.setTop (mkF m 13 #[.val (.ref a1), .val (.int p1), .val (.int p2)] [(.int p2), (.int p1), (.ref a1)]))
    refine ownCallS X0 hx hZ hown (hw _ (List.mem_of_getElem? (i := 47) rfl)) (hw _ (List.mem_of_getElem? (i := 48) rfl)) (hw _ (List.mem_of_getElem? (i := 36) rfl)) (hw _ (List.mem_of_getElem? (i := 49) rfl)) (by decide) e0 (own_crb l Z a0 hw a1 p1 p2 h0 n0 k_a1 z vs i j lz Z0 A_a1 E_a1 hi hj hz hvl hij hjz hcap) (by rw [hml]; rfl) [(.ref a1), (.int p1), (.int p2)] [] (lenOf own_pd3 rfl) rfl rfl 0 rfl (hb hby d7_13) (by decide) (by decide) (by decide) (by decide) ?_
    intro v29 T29 L29 X29 hq29
    obtain ⟨b1, kb1, rfl, N29q, K29, sz_b1, E_b1, A_b1⟩ := hq29
    have N29 := Fr.app N0 N29q
    show ownFin _ _ _ _ _ (T29.setTop (mkF m 16 #[.val (.ref a1), .val (.int p1), .val (.int p2)] [(.ref b1)]))
    refine ownRetA X29 hx hlk (ty := (.array .byte)) hret rfl (hb hby d7_16) (by decide) (by decide) ?_
    show (Q_own_cr Z a1 p1 p2 h0 n0 k_a1 z vs i j lz) (some (.ref b1)) T29.heap _
    exact ⟨b1, kb1, rfl, N29, K29, sz_b1, E_b1, A_b1⟩
theorem d6_0 : decode prog_10_method_11_code 0 = .ok (.aload_n 0, 1) := by decide +kernel
theorem d6_1 : decode prog_10_method_11_code 1 = .ok (.getfield 7, 3) := by decide +kernel
theorem d6_4 : decode prog_10_method_11_code 4 = .ok (.aload_n 0, 1) := by decide +kernel
theorem d6_5 : decode prog_10_method_11_code 5 = .ok (.getfield 17, 3) := by decide +kernel
theorem d6_8 : decode prog_10_method_11_code 8 = .ok (.aload_n 0, 1) := by decide +kernel
theorem d6_9 : decode prog_10_method_11_code 9 = .ok (.getfield 7, 3) := by decide +kernel
theorem d6_12 : decode prog_10_method_11_code 12 = .ok (.arraylength, 1) := by decide +kernel
theorem d6_13 : decode prog_10_method_11_code 13 = .ok (.invokestatic 34, 3) := by decide +kernel
theorem d6_16 : decode prog_10_method_11_code 16 = .ok (.astore_n 1, 1) := by decide +kernel
theorem d6_17 : decode prog_10_method_11_code 17 = .ok (.aload_n 0, 1) := by decide +kernel
theorem d6_18 : decode prog_10_method_11_code 18 = .ok (.aload_n 0, 1) := by decide +kernel
theorem d6_19 : decode prog_10_method_11_code 19 = .ok (.getfield 7, 3) := by decide +kernel
theorem d6_22 : decode prog_10_method_11_code 22 = .ok (.arraylength, 1) := by decide +kernel
theorem d6_23 : decode prog_10_method_11_code 23 = .ok (.putfield 17, 3) := by decide +kernel
theorem d6_26 : decode prog_10_method_11_code 26 = .ok (.aload_n 1, 1) := by decide +kernel
theorem d6_27 : decode prog_10_method_11_code 27 = .ok (.areturn, 1) := by decide +kernel
theorem own_ef30 (m : MethodId) (a1 : Addr) : entryFrame m #[(.ref a1)] 2 = mkF m 0 #[.val (.ref a1), .unset] [] := by first | (simp [entryFrame, mkF, argsToLocals, Value.category]; done) | rfl
def Q_own_rest (Z : State) (a1 : Addr) (h0 : Heap) (n0 : Nat) (b1 : Addr) (k_b1 : ClassId) (z pos : Int32) (vs : List Value) (i lz : Nat) : Option Value → Heap → List Loc → Prop := fun v h L => ∃ r, v = some (.ref r) ∧ Fr n0 L ∧ Keep h0 h [a1] ∧ Fld Z h a1 "com/example/laiskas/laiskas/protocol/Decoder" "bytes" "[B" (.ref b1) ∧ Fld Z h a1 "com/example/laiskas/laiskas/protocol/Decoder" "position" "I" (.int z)
set_option maxRecDepth 65536 in
set_option maxHeartbeats 40000000 in
theorem own_rest (l : Launch) (Z : State) (a0 : Array Value) (hw : ∀ d ∈ tables_1, d.before a0 Z = true)  (a1 : Addr) (h0 : Heap) (n0 : Nat) (b1 : Addr) (k_b1 : ClassId) (z pos : Int32) (vs : List Value) (i lz : Nat) (Z0 : n0 ≤ h0.size) (F_a1_bytes : Fld Z h0 a1 "com/example/laiskas/laiskas/protocol/Decoder" "bytes" "[B" (.ref b1)) (F_a1_position : Fld Z h0 a1 "com/example/laiskas/laiskas/protocol/Decoder" "position" "I" (.int pos)) (E_a1 : Exa Z h0 a1 "com/example/laiskas/laiskas/protocol/Decoder") (A_b1 : Arv Z h0 b1 k_b1 .byte z vs (.int (0 : Int32))) (E_b1 : Exa Z h0 b1 "[B") (ne_a1_b1 : a1 ≠ b1) (ge_a1 : n0 ≤ a1) (hi : pos.toInt = (i : Int)) (hz : z.toInt = (lz : Int)) (hvl : vs.length = lz) (hil : i ≤ lz) (hl8 : lz ≤ 8) :
    ownMet l Z (⟨"com/example/laiskas/laiskas/protocol/Decoder", "rest", "()[B"⟩ : MethodName) prog_10_method_11_code 2 (some (.array .byte)) [] ({ frames := 3, cells := 1, slots := 8, locals := 100 } : Room) #[(.ref a1)] h0 (Q_own_rest Z a1 h0 n0 b1 k_b1 z pos vs i lz) := by
  refine ownBody (plainFor_of_name own_pn0) ?_
  intro p e s m below meth c T0 hx hby hml hret hlk hZ hown hnm X0 e0
  have N0 : Fr n0 [] := Fr.nil n0
  refine ownVia (fun _ k => castTop (own_ef30 m a1) k) ?_
  show ownFin _ _ _ _ _ (T0.setTop (mkF m 0 #[.val (.ref a1), .unset] []))
  have K0 : Keep h0 h0 [a1] := Keep.refl _ _
  refine ownVia (fun _ k => XS.aloadN X0.here hx rfl (hb hby d6_0) rfl rfl k) ?_
  show ownFin _ _ _ _ _ (T0.setTop (mkF m 1 #[.val (.ref a1), .unset] [(.ref a1)]))
  obtain ⟨T31, X31, e31, st31⟩ := getF X0 hx hZ hown (host := "") (Or.inl (hw _ (List.mem_of_getElem? (i := 11) rfl))) Via.refl e0 F_a1_bytes (g := (mkF m 1 #[.val (.ref a1), .unset] [(.ref a1)])) rfl rfl (hb hby d6_1)
  refine ownVia st31 ?_
  show ownFin _ _ _ _ _ (T31.setTop (mkF m 4 #[.val (.ref a1), .unset] [(.ref b1)]))
  refine ownVia (fun _ k => XS.aloadN X31.here hx rfl (hb hby d6_4) rfl rfl k) ?_
  show ownFin _ _ _ _ _ (T31.setTop (mkF m 5 #[.val (.ref a1), .unset] [(.ref a1), (.ref b1)]))
  obtain ⟨T32, X32, e32, st32⟩ := getF X31 hx hZ hown (host := "") (Or.inl (hw _ (List.mem_of_getElem? (i := 22) rfl))) Via.refl e31 F_a1_position (g := (mkF m 5 #[.val (.ref a1), .unset] [(.ref a1), (.ref b1)])) rfl rfl (hb hby d6_5)
  refine ownVia st32 ?_
  show ownFin _ _ _ _ _ (T32.setTop (mkF m 8 #[.val (.ref a1), .unset] [(.int pos), (.ref b1)]))
  refine ownVia (fun _ k => XS.aloadN X32.here hx rfl (hb hby d6_8) rfl rfl k) ?_
  show ownFin _ _ _ _ _ (T32.setTop (mkF m 9 #[.val (.ref a1), .unset] [(.ref a1), (.int pos), (.ref b1)]))
  obtain ⟨T33, X33, e33, st33⟩ := getF X32 hx hZ hown (host := "") (Or.inl (hw _ (List.mem_of_getElem? (i := 11) rfl))) Via.refl e32 F_a1_bytes (g := (mkF m 9 #[.val (.ref a1), .unset] [(.ref a1), (.int pos), (.ref b1)])) rfl rfl (hb hby d6_9)
  refine ownVia st33 ?_
  show ownFin _ _ _ _ _ (T33.setTop (mkF m 12 #[.val (.ref a1), .unset] [(.ref b1), (.int pos), (.ref b1)]))
  refine ownLen X33 hx hZ e33 A_b1 (hb hby d6_12) ?_
  show ownFin _ _ _ _ _ (T33.setTop (mkF m 13 #[.val (.ref a1), .unset] [(.int z), (.int pos), (.ref b1)]))
  refine ownCallS X33 hx hZ hown (hw _ (List.mem_of_getElem? (i := 34) rfl)) (hw _ (List.mem_of_getElem? (i := 35) rfl)) (hw _ (List.mem_of_getElem? (i := 36) rfl)) (hw _ (List.mem_of_getElem? (i := 37) rfl)) (by decide) e33 (own_cr l Z a0 hw b1 pos z h0 n0 k_b1 z vs i lz lz Z0 A_b1 E_b1 hi hz hz hvl hil (Nat.le_refl _) (by omega)) (by rw [hml]; rfl) [(.ref b1), (.int pos), (.int z)] [] (lenOf own_pd3 rfl) rfl rfl 0 rfl (hb hby d6_13) (by decide) (by decide) (by decide) (by decide) ?_
  intro v34 T34 L34 X34 hq34
  obtain ⟨r1, kr1, rfl, N34q, K34, sz_r1, E_r1, A_r1⟩ := hq34
  have F_a1_bytes := F_a1_bytes.keep K34 nin0
  have F_a1_position := F_a1_position.keep K34 nin0
  have E_a1 := E_a1.keep K34
  have A_b1 := A_b1.keep K34 nin0
  have E_b1 := E_b1.keep K34
  have K0 := K0.trans K34 all0
  have Z0 := Nat.le_trans Z0 K34.1
  have N34 := Fr.app N0 N34q
  show ownFin _ _ _ _ _ (T34.setTop (mkF m 16 #[.val (.ref a1), .unset] [(.ref r1)]))
  refine ownVia (fun _ k => XS.astoreN X34.here hx rfl (hb hby d6_16) rfl rfl (l' := #[.val (.ref a1), .val (.ref r1)]) rfl k) ?_
  show ownFin _ _ _ _ _ (T34.setTop (mkF m 17 #[.val (.ref a1), .val (.ref r1)] []))
  refine ownVia (fun _ k => XS.aloadN X34.here hx rfl (hb hby d6_17) rfl rfl k) ?_
  show ownFin _ _ _ _ _ (T34.setTop (mkF m 18 #[.val (.ref a1), .val (.ref r1)] [(.ref a1)]))
  refine ownVia (fun _ k => XS.aloadN X34.here hx rfl (hb hby d6_18) rfl rfl k) ?_
  show ownFin _ _ _ _ _ (T34.setTop (mkF m 19 #[.val (.ref a1), .val (.ref r1)] [(.ref a1), (.ref a1)]))
  obtain ⟨T35, X35, e35, st35⟩ := getF X34 hx hZ hown (host := "") (Or.inl (hw _ (List.mem_of_getElem? (i := 11) rfl))) Via.refl (rfl : T34.heap = T34.heap) F_a1_bytes (g := (mkF m 19 #[.val (.ref a1), .val (.ref r1)] [(.ref a1), (.ref a1)])) rfl rfl (hb hby d6_19)
  refine ownVia st35 ?_
  show ownFin _ _ _ _ _ (T35.setTop (mkF m 22 #[.val (.ref a1), .val (.ref r1)] [(.ref b1), (.ref a1)]))
  refine ownLen X35 hx hZ e35 A_b1 (hb hby d6_22) ?_
  show ownFin _ _ _ _ _ (T35.setTop (mkF m 23 #[.val (.ref a1), .val (.ref r1)] [(.int z), (.ref a1)]))
  obtain ⟨T36, h36, X36, e36, W36, st36⟩ := putF X35 hx hZ hown (host := "") (Or.inl (hw _ (List.mem_of_getElem? (i := 22) rfl))) Via.refl e35 F_a1_position E_a1 (Or.inl (hw _ (List.mem_of_getElem? (i := 23) rfl))) (hw _ (List.mem_of_getElem? (i := 2) rfl)) (ty := .int) (by decide) rfl rfl (g := (mkF m 23 #[.val (.ref a1), .val (.ref r1)] [(.int z), (.ref a1)])) rfl rfl (hb hby d6_23)
  have N36 := Fr.snoc X36 N34 ge_a1
  have F_a1_position := F_a1_position.same W36
  have F_a1_bytes := F_a1_bytes.other W36 (Or.inr (slot_ne (Or.inr (hw _ (List.mem_of_getElem? (i := 12) rfl))) (Or.inl (hw _ (List.mem_of_getElem? (i := 23) rfl))) (by decide) (t := (.array .byte)) (t' := .int) (by decide) (by decide)))
  have E_a1 := E_a1.wr W36
  have A_b1 := A_b1.other W36 (Ne.symm ne_a1_b1)
  have E_b1 := E_b1.wr W36
  have K0 := K0.wr W36 (Or.inl (List.mem_of_getElem? (i := 0) rfl))
  have Z0 := own_szW Z0 W36
  refine ownVia st36 ?_
  show ownFin _ _ _ _ _ (T36.setTop (mkF m 26 #[.val (.ref a1), .val (.ref r1)] []))
  refine ownVia (fun _ k => XS.aloadN X36.here hx rfl (hb hby d6_26) rfl rfl k) ?_
  show ownFin _ _ _ _ _ (T36.setTop (mkF m 27 #[.val (.ref a1), .val (.ref r1)] [(.ref r1)]))
  refine ownRetA X36 hx hlk (ty := (.array .byte)) hret rfl (hb hby d6_27) (by decide) (by decide) ?_
  show (Q_own_rest Z a1 h0 n0 b1 k_b1 z pos vs i lz) (some (.ref r1)) T36.heap _
  rw [e36]
  exact ⟨r1, rfl, N36, K0, F_a1_bytes, F_a1_position⟩
theorem own_pn2 : plainName "com/example/laiskas/laiskas/protocol/DecoderAtEndPinLaw" = true := by first | (simp [plainName, overriddenIn]; done) | decide +kernel
theorem own_ef37 (m : MethodId) (p1 : Int32) (p2 : Int32) : entryFrame m #[(.int p1), (.int p2)] maxLocals = mkF m 0 #[.val (.int p1), .val (.int p2), .unset, .unset, .unset, .unset, .unset] [] := by first | (simp [entryFrame, mkF, argsToLocals, Value.category, maxLocals]; done) | rfl
def Q_own_law (Z : State) (p1 : Int32) (p2 : Int32) (h0 : Heap) (n0 : Nat)  : Option Value → Heap → List Loc → Prop := fun v h L => v = some (.int 1) ∧ Fr n0 L
theorem own_pd4 : parseMethodDescriptor "([B)V" = some ⟨[(.array .byte)], none⟩ := by decide +kernel
theorem own_pd5 : parseMethodDescriptor "()Z" = some ⟨[], some .boolean⟩ := by decide +kernel
theorem own_pd6 : parseMethodDescriptor "()[B" = some ⟨[], some (.array .byte)⟩ := by decide +kernel
set_option maxRecDepth 65536 in
set_option maxHeartbeats 40000000 in
theorem own_law (l : Launch) (Z : State) (a0 : Array Value) (hw : ∀ d ∈ tables_1, d.before a0 Z = true) (ws : List Jvm.Cond) (p1 : Int32) (p2 : Int32) (h0 : Heap) (n0 : Nat)  (Z0 : n0 ≤ h0.size)  :
    ownMet l Z x code maxLocals ret ws room_1 #[(.int p1), (.int p2)] h0 (Q_own_law Z p1 p2 h0 n0 ) := by
  refine ownBody (plainFor_of_name own_pn2) ?_
  intro p e s m below meth c T0 hx hby hml hret hlk hZ hown hnm X0 e0
  have N0 : Fr n0 [] := Fr.nil n0
  have hown : s.vm.findClass "com/example/laiskas/laiskas/protocol/DecoderAtEndPinLaw" = some m.cls := hown
  refine ownVia (fun _ k => castTop (own_ef37 m p1 p2) k) ?_
  show ownFin _ _ _ _ _ (T0.setTop (mkF m 0 #[.val (.int p1), .val (.int p2), .unset, .unset, .unset, .unset, .unset] []))
  have hnk := own_nk p1 p2
  refine ownVia (fun _ k => XS.iloadN X0.here hx rfl (hb hby at_0) rfl k) ?_
  show ownFin _ _ _ _ _ (T0.setTop (mkF m 1 #[.val (.int p1), .val (.int p2), .unset, .unset, .unset, .unset, .unset] [(.int p1)]))
  refine ownVia (fun _ k => XS.bipush X0.here hx rfl (hb hby at_1) k) ?_
  show ownFin _ _ _ _ _ (T0.setTop (mkF m 3 #[.val (.int p1), .val (.int p2), .unset, .unset, .unset, .unset, .unset] [(.int (7 : Int32)), (.int p1)]))
  refine ownVia (fun _ k => XS.iand X0.here hx rfl (hb hby at_3) rfl k) ?_
  show ownFin _ _ _ _ _ (T0.setTop (mkF m 4 #[.val (.int p1), .val (.int p2), .unset, .unset, .unset, .unset, .unset] [(.int (p1 &&& (7 : Int32)))]))
  refine ownVia (fun _ k => XS.istoreN X0.here hx rfl (hb hby at_4) rfl (l' := #[.val (.int p1), .val (.int p2), .val (.int (p1 &&& (7 : Int32))), .unset, .unset, .unset, .unset]) rfl k) ?_
  show ownFin _ _ _ _ _ (T0.setTop (mkF m 5 #[.val (.int p1), .val (.int p2), .val (.int (p1 &&& (7 : Int32))), .unset, .unset, .unset, .unset] []))
  refine ownVia (fun _ k => XS.iloadN X0.here hx rfl (hb hby at_5) rfl k) ?_
  show ownFin _ _ _ _ _ (T0.setTop (mkF m 6 #[.val (.int p1), .val (.int p2), .val (.int (p1 &&& (7 : Int32))), .unset, .unset, .unset, .unset] [(.int p2)]))
  refine ownVia (fun _ k => X0.ldcInt hx hown (mvT hZ (hw _ (List.mem_of_getElem? (i := 0) rfl))) (g := (mkF m 6 #[.val (.int p1), .val (.int p2), .val (.int (p1 &&& (7 : Int32))), .unset, .unset, .unset, .unset] [(.int p2)])) rfl (hb hby at_6) _ k) ?_
  show ownFin _ _ _ _ _ (T0.setTop (mkF m 8 #[.val (.int p1), .val (.int p2), .val (.int (p1 &&& (7 : Int32))), .unset, .unset, .unset, .unset] [(.int (2147483647 : Int32)), (.int p2)]))
  refine ownVia (fun _ k => XS.iand X0.here hx rfl (hb hby at_8) rfl k) ?_
  show ownFin _ _ _ _ _ (T0.setTop (mkF m 9 #[.val (.int p1), .val (.int p2), .val (.int (p1 &&& (7 : Int32))), .unset, .unset, .unset, .unset] [(.int (p2 &&& (2147483647 : Int32)))]))
  refine ownVia (fun _ k => XS.iloadN X0.here hx rfl (hb hby at_9) rfl k) ?_
  show ownFin _ _ _ _ _ (T0.setTop (mkF m 10 #[.val (.int p1), .val (.int p2), .val (.int (p1 &&& (7 : Int32))), .unset, .unset, .unset, .unset] [(.int (p1 &&& (7 : Int32))), (.int (p2 &&& (2147483647 : Int32)))]))
  refine ownVia (fun _ k => XS.iconst X0.here hx rfl (hb hby at_10) k) ?_
  show ownFin _ _ _ _ _ (T0.setTop (mkF m 11 #[.val (.int p1), .val (.int p2), .val (.int (p1 &&& (7 : Int32))), .unset, .unset, .unset, .unset] [(.int (1 : Int32)), (.int (p1 &&& (7 : Int32))), (.int (p2 &&& (2147483647 : Int32)))]))
  refine ownVia (fun _ k => XS.iadd X0.here hx rfl (hb hby at_11) rfl k) ?_
  show ownFin _ _ _ _ _ (T0.setTop (mkF m 12 #[.val (.int p1), .val (.int p2), .val (.int (p1 &&& (7 : Int32))), .unset, .unset, .unset, .unset] [(.int ((p1 &&& (7 : Int32)) + (1 : Int32))), (.int (p2 &&& (2147483647 : Int32)))]))
  refine ownVia (fun _ k => iremM X0 hx rfl (hb hby at_12) rfl hnk.2.2.1 k) ?_
  show ownFin _ _ _ _ _ (T0.setTop (mkF m 13 #[.val (.int p1), .val (.int p2), .val (.int (p1 &&& (7 : Int32))), .unset, .unset, .unset, .unset] [(.int ((p2 &&& (2147483647 : Int32)) % ((p1 &&& (7 : Int32)) + (1 : Int32))))]))
  generalize h_kv : ((p2 &&& (2147483647 : Int32)) % ((p1 &&& (7 : Int32)) + (1 : Int32))) = kv
  show ownFin _ _ _ _ _ (T0.setTop (mkF m 13 #[.val (.int p1), .val (.int p2), .val (.int (p1 &&& (7 : Int32))), .unset, .unset, .unset, .unset] [(.int kv)]))
  generalize h_nv : (p1 &&& (7 : Int32)) = nv
  show ownFin _ _ _ _ _ (T0.setTop (mkF m 13 #[.val (.int p1), .val (.int p2), .val (.int nv), .unset, .unset, .unset, .unset] [(.int kv)]))
  rw [h_nv] at h_kv hnk
  rw [h_kv] at hnk
  obtain ⟨N, hN⟩ : ∃ N : Nat, nv.toInt = N := ⟨nv.toInt.toNat, by omega⟩
  obtain ⟨k, hk⟩ : ∃ k : Nat, kv.toInt = k := ⟨kv.toInt.toNat, by omega⟩
  have hkN : k ≤ N := by omega
  have hN7 : N ≤ 7 := by omega
  have h0k : ((0 : Int32) + kv) = kv := Int32.zero_add _
  refine ownVia (fun _ k => XS.istoreN X0.here hx rfl (hb hby at_13) rfl (l' := #[.val (.int p1), .val (.int p2), .val (.int nv), .val (.int kv), .unset, .unset, .unset]) rfl k) ?_
  show ownFin _ _ _ _ _ (T0.setTop (mkF m 14 #[.val (.int p1), .val (.int p2), .val (.int nv), .val (.int kv), .unset, .unset, .unset] []))
  obtain ⟨T38, h38, X38, e38, E38, A38, D38, -, st38⟩ := newO X0 hx hZ hown (hw _ (List.mem_of_getElem? (i := 1) rfl)) (hw _ (List.mem_of_getElem? (i := 2) rfl)) (hw _ (List.mem_of_getElem? (i := 3) rfl)) e0 (g := (mkF m 14 #[.val (.int p1), .val (.int p2), .val (.int nv), .val (.int kv), .unset, .unset, .unset] [])) rfl (hb hby at_14) (by decide) (by decide)
  obtain ⟨b1, g38⟩ : ∃ z, z = h0.size := ⟨_, rfl⟩
  rw [← g38] at A38 D38 st38
  have ge_b1 : n0 ≤ b1 := Nat.le_trans Z0 (Nat.le_of_eq g38.symm)
  have Z0 := own_sz Z0 E38
  have E_b1 := A38
  have F_b1_bytes : Fld Z h38 b1 "com/example/laiskas/laiskas/protocol/Decoder" "bytes" "[B" .null := D38 (Or.inr (hw _ (List.mem_of_getElem? (i := 12) rfl))) (ty := (.array .byte)) (by decide)
  have F_b1_position : Fld Z h38 b1 "com/example/laiskas/laiskas/protocol/Decoder" "position" "I" (.int (0 : Int32)) := D38 (Or.inl (hw _ (List.mem_of_getElem? (i := 23) rfl))) (ty := .int) (by decide)
  refine ownVia st38 ?_
  show ownFin _ _ _ _ _ (T38.setTop (mkF m 17 #[.val (.int p1), .val (.int p2), .val (.int nv), .val (.int kv), .unset, .unset, .unset] [(.ref b1)]))
  refine ownVia (fun _ k => XS.dup X38.here hx rfl (hb hby at_17) rfl rfl k) ?_
  show ownFin _ _ _ _ _ (T38.setTop (mkF m 18 #[.val (.int p1), .val (.int p2), .val (.int nv), .val (.int kv), .unset, .unset, .unset] [(.ref b1), (.ref b1)]))
  refine ownVia (fun _ k => XS.iloadN X38.here hx rfl (hb hby at_18) rfl k) ?_
  show ownFin _ _ _ _ _ (T38.setTop (mkF m 19 #[.val (.int p1), .val (.int p2), .val (.int nv), .val (.int kv), .unset, .unset, .unset] [(.int nv), (.ref b1), (.ref b1)]))
  refine ownNewP X38 hx hZ (hw _ (List.mem_of_getElem? (i := 4) rfl)) e38 "[B" (by decide) (own_nneg hN) (N) (own_clamp hN) (8) (by omega) (by decide) (by decide) (by decide) (hb hby at_19) ?_
  intro T39 h39 k_b2 b2 g39 X39 e39 E39 A_b2 E_b2
  have ne_b1_b2 : b1 ≠ b2 := Nat.ne_of_lt (Nat.lt_of_lt_of_le E_b1.lt (Nat.le_of_eq g39.symm))
  have ge_b2 : n0 ≤ b2 := Nat.le_trans Z0 (Nat.le_of_eq g39.symm)
  have E_b1 := E_b1.ext E39
  have F_b1_bytes := F_b1_bytes.ext E39
  have F_b1_position := F_b1_position.ext E39
  have Z0 := own_sz Z0 E39
  have A_b2 : Arv Z h39 b2 k_b2 .byte nv (List.replicate N (.int (0 : Int32))) (.int (0 : Int32)) := A_b2
  show ownFin _ _ _ _ _ (T39.setTop (mkF m 21 #[.val (.int p1), .val (.int p2), .val (.int nv), .val (.int kv), .unset, .unset, .unset] [(.ref b2), (.ref b1), (.ref b1)]))
  refine ownCallN X39 hx hZ hown rfl (hw _ (List.mem_of_getElem? (i := 5) rfl)) (hw _ (List.mem_of_getElem? (i := 6) rfl)) (hw _ (List.mem_of_getElem? (i := 3) rfl)) (hw _ (List.mem_of_getElem? (i := 7) rfl)) (by decide) e39 (own_init l Z a0 hw b1 b2 h39 n0 Z0 F_b1_bytes F_b1_position E_b1 ge_b1) (by rw [hml]; rfl) b1 [(.ref b2)] [(.ref b1)] (lenOf own_pd4 rfl) rfl rfl 1 rfl (hb hby at_21) (by decide) (by decide) (by decide) (by decide) ?_
  intro v40 T40 L40 X40 hq40
  obtain ⟨rfl, N40q, K40, F_b1_bytes, F_b1_position⟩ := hq40
  have E_b1 := E_b1.keep K40
  have A_b2 := A_b2.keep K40 (ninS (Ne.symm ne_b1_b2) nin0)
  have E_b2 := E_b2.keep K40
  have Z0 := Nat.le_trans Z0 K40.1
  have N40 := Fr.app N0 N40q
  show ownFin _ _ _ _ _ (T40.setTop (mkF m 24 #[.val (.int p1), .val (.int p2), .val (.int nv), .val (.int kv), .unset, .unset, .unset] [(.ref b1)]))
  refine ownVia (fun _ k => XS.astore X40.here hx rfl (hb hby at_24) rfl rfl (l' := #[.val (.int p1), .val (.int p2), .val (.int nv), .val (.int kv), .val (.ref b1), .unset, .unset]) rfl k) ?_
  show ownFin _ _ _ _ _ (T40.setTop (mkF m 26 #[.val (.int p1), .val (.int p2), .val (.int nv), .val (.int kv), .val (.ref b1), .unset, .unset] []))
  refine ownVia (fun _ k => XS.aload X40.here hx rfl (hb hby at_26) rfl rfl k) ?_
  show ownFin _ _ _ _ _ (T40.setTop (mkF m 28 #[.val (.int p1), .val (.int p2), .val (.int nv), .val (.int kv), .val (.ref b1), .unset, .unset] [(.ref b1)]))
  refine ownVia (fun _ k => XS.iloadN X40.here hx rfl (hb hby at_28) rfl k) ?_
  show ownFin _ _ _ _ _ (T40.setTop (mkF m 29 #[.val (.int p1), .val (.int p2), .val (.int nv), .val (.int kv), .val (.ref b1), .unset, .unset] [(.int kv), (.ref b1)]))
  refine ownCallV X40 hx hZ hown (hw _ (List.mem_of_getElem? (i := 13) rfl)) (hw _ (List.mem_of_getElem? (i := 14) rfl)) (hw _ (List.mem_of_getElem? (i := 16) rfl)) (hw _ (List.mem_of_getElem? (i := 16) rfl)) (hw _ (List.mem_of_getElem? (i := 15) rfl)) (hw _ (List.mem_of_getElem? (i := 3) rfl)) (hw _ (List.mem_of_getElem? (i := 17) rfl)) (by decide) (rfl : T40.heap = T40.heap) E_b1 (own_skip l Z a0 hw b1 kv T40.heap n0 b2 k_b2 nv (0 : Int32) (List.replicate N (.int (0 : Int32))) (.int (0 : Int32)) Z0 F_b1_bytes F_b1_position E_b1 A_b2 ne_b1_b2 ge_b1 (own_nlt (own_sub hN (by decide : (0 : Int32).toInt = ((0 : Nat) : Int)) (by omega)) hk (by omega))) (by rw [hml]; rfl) [(.int kv)] [] (lenOf own_pd0 rfl) rfl rfl 0 rfl (hb hby at_29) (by decide) (by decide) (by decide) (by decide) ?_
  intro v41 T41 L41 X41 hq41
  obtain ⟨rfl, N41q, K41, F_b1_bytes, F_b1_position⟩ := hq41
  have E_b1 := E_b1.keep K41
  have A_b2 := A_b2.keep K41 (ninS (Ne.symm ne_b1_b2) nin0)
  have E_b2 := E_b2.keep K41
  have Z0 := Nat.le_trans Z0 K41.1
  rw [h0k] at F_b1_position
  have N41 := Fr.app N40 N41q
  show ownFin _ _ _ _ _ (T41.setTop (mkF m 32 #[.val (.int p1), .val (.int p2), .val (.int nv), .val (.int kv), .val (.ref b1), .unset, .unset] []))
  refine ownVia (fun _ k => XS.aload X41.here hx rfl (hb hby at_32) rfl rfl k) ?_
  show ownFin _ _ _ _ _ (T41.setTop (mkF m 34 #[.val (.int p1), .val (.int p2), .val (.int nv), .val (.int kv), .val (.ref b1), .unset, .unset] [(.ref b1)]))
  refine ownCallV X41 hx hZ hown (hw _ (List.mem_of_getElem? (i := 24) rfl)) (hw _ (List.mem_of_getElem? (i := 25) rfl)) (hw _ (List.mem_of_getElem? (i := 27) rfl)) (hw _ (List.mem_of_getElem? (i := 27) rfl)) (hw _ (List.mem_of_getElem? (i := 26) rfl)) (hw _ (List.mem_of_getElem? (i := 3) rfl)) (hw _ (List.mem_of_getElem? (i := 28) rfl)) (by decide) (rfl : T41.heap = T41.heap) E_b1 (own_atend l Z a0 hw b1 T41.heap n0 b2 k_b2 nv kv (List.replicate N (.int (0 : Int32))) (.int (0 : Int32)) Z0 F_b1_bytes F_b1_position E_b1 A_b2 ne_b1_b2) (by rw [hml]; rfl) [] [] (lenOf own_pd5 rfl) rfl rfl 0 rfl (hb hby at_34) (by decide) (by decide) (by decide) (by decide) ?_
  intro v42 T42 L42 X42 hq42
  obtain ⟨rfl, N42q, eq42⟩ := hq42
  have N42 := Fr.app N41 N42q
  have e42 : T42.heap = T41.heap := eq42
  show ownFin _ _ _ _ _ (T42.setTop (mkF m 37 #[.val (.int p1), .val (.int p2), .val (.int nv), .val (.int kv), .val (.ref b1), .unset, .unset] [(.int (own_ae kv nv))]))
  refine ownVia (fun _ k => XS.iloadN X42.here hx rfl (hb hby at_37) rfl k) ?_
  show ownFin _ _ _ _ _ (T42.setTop (mkF m 38 #[.val (.int p1), .val (.int p2), .val (.int nv), .val (.int kv), .val (.ref b1), .unset, .unset] [(.int kv), (.int (own_ae kv nv))]))
  refine ownVia (fun _ k => XS.iloadN X42.here hx rfl (hb hby at_38) rfl k) ?_
  show ownFin _ _ _ _ _ (T42.setTop (mkF m 39 #[.val (.int p1), .val (.int p2), .val (.int nv), .val (.int kv), .val (.ref b1), .unset, .unset] [(.int nv), (.int kv), (.int (own_ae kv nv))]))
  by_cases hc43 : kv = nv
  case pos =>
    have hc43I : kv.toInt = nv.toInt := (own_eqi rfl rfl).mp hc43
    refine ownVia (fun _ k => XS.icmpNo X42.here hx rfl (hb hby at_39) rfl (teq hc43).2 k) ?_
    show ownFin _ _ _ _ _ (T42.setTop (mkF m 42 #[.val (.int p1), .val (.int p2), .val (.int nv), .val (.int kv), .val (.ref b1), .unset, .unset] [(.int (own_ae kv nv))]))
    refine ownVia (fun _ k => XS.iconst X42.here hx rfl (hb hby at_42) k) ?_
    show ownFin _ _ _ _ _ (T42.setTop (mkF m 43 #[.val (.int p1), .val (.int p2), .val (.int nv), .val (.int kv), .val (.ref b1), .unset, .unset] [(.int (1 : Int32)), (.int (own_ae kv nv))]))
    refine ownVia (fun _ k => XS.goto X42.here hx rfl (pc0 := 43) (pc' := 47) rfl (hb hby at_43) (by decide) (by decide) k) ?_
    show ownFin _ _ _ _ _ (T42.setTop (mkF m 47 #[.val (.int p1), .val (.int p2), .val (.int nv), .val (.int kv), .val (.ref b1), .unset, .unset] [(.int (1 : Int32)), (.int (own_ae kv nv))]))
    refine ownVia (fun _ k => XS.icmpNo X42.here hx rfl (hb hby at_47) rfl (teq (own_ae1 hc43)).2 k) ?_
    show ownFin _ _ _ _ _ (T42.setTop (mkF m 50 #[.val (.int p1), .val (.int p2), .val (.int nv), .val (.int kv), .val (.ref b1), .unset, .unset] []))
    refine ownVia (fun _ k => XS.iconst X42.here hx rfl (hb hby at_50) k) ?_
    show ownFin _ _ _ _ _ (T42.setTop (mkF m 51 #[.val (.int p1), .val (.int p2), .val (.int nv), .val (.int kv), .val (.ref b1), .unset, .unset] [(.int (1 : Int32))]))
    refine ownVia (fun _ k => XS.goto X42.here hx rfl (pc0 := 51) (pc' := 55) rfl (hb hby at_51) (by decide) (by decide) k) ?_
    show ownFin _ _ _ _ _ (T42.setTop (mkF m 55 #[.val (.int p1), .val (.int p2), .val (.int nv), .val (.int kv), .val (.ref b1), .unset, .unset] [(.int (1 : Int32))]))
    refine ownVia (fun _ k => XS.istore X42.here hx rfl (hb hby at_55) rfl (l' := #[.val (.int p1), .val (.int p2), .val (.int nv), .val (.int kv), .val (.ref b1), .val (.int (1 : Int32)), .unset]) rfl k) ?_
    show ownFin _ _ _ _ _ (T42.setTop (mkF m 57 #[.val (.int p1), .val (.int p2), .val (.int nv), .val (.int kv), .val (.ref b1), .val (.int (1 : Int32)), .unset] []))
    refine ownVia (fun _ k => XS.aload X42.here hx rfl (hb hby at_57) rfl rfl k) ?_
    show ownFin _ _ _ _ _ (T42.setTop (mkF m 59 #[.val (.int p1), .val (.int p2), .val (.int nv), .val (.int kv), .val (.ref b1), .val (.int (1 : Int32)), .unset] [(.ref b1)]))
    refine ownCallV X42 hx hZ hown (hw _ (List.mem_of_getElem? (i := 29) rfl)) (hw _ (List.mem_of_getElem? (i := 30) rfl)) (hw _ (List.mem_of_getElem? (i := 32) rfl)) (hw _ (List.mem_of_getElem? (i := 32) rfl)) (hw _ (List.mem_of_getElem? (i := 31) rfl)) (hw _ (List.mem_of_getElem? (i := 3) rfl)) (hw _ (List.mem_of_getElem? (i := 33) rfl)) (by decide) e42 E_b1 (own_rest l Z a0 hw b1 T41.heap n0 b2 k_b2 nv kv (List.replicate N (.int (0 : Int32))) k N Z0 F_b1_bytes F_b1_position E_b1 A_b2 E_b2 ne_b1_b2 ge_b1 hk hN (by simp) hkN (by omega)) (by rw [hml]; rfl) [] [] (lenOf own_pd6 rfl) rfl rfl 0 rfl (hb hby at_59) (by decide) (by decide) (by decide) (by decide) ?_
    intro v44 T44 L44 X44 hq44
    obtain ⟨r1, rfl, N44q, K44, F_b1_bytes, F_b1_position⟩ := hq44
    have E_b1 := E_b1.keep K44
    have A_b2 := A_b2.keep K44 (ninS (Ne.symm ne_b1_b2) nin0)
    have E_b2 := E_b2.keep K44
    have Z0 := Nat.le_trans Z0 K44.1
    have N44 := Fr.app N42 N44q
    show ownFin _ _ _ _ _ (T44.setTop (mkF m 62 #[.val (.int p1), .val (.int p2), .val (.int nv), .val (.int kv), .val (.ref b1), .val (.int (1 : Int32)), .unset] [(.ref r1)]))
    refine ownVia (fun _ k => XS.pop X44.here hx rfl (hb hby at_62) rfl rfl k) ?_
    show ownFin _ _ _ _ _ (T44.setTop (mkF m 63 #[.val (.int p1), .val (.int p2), .val (.int nv), .val (.int kv), .val (.ref b1), .val (.int (1 : Int32)), .unset] []))
    refine ownVia (fun _ k => XS.aload X44.here hx rfl (hb hby at_63) rfl rfl k) ?_
    show ownFin _ _ _ _ _ (T44.setTop (mkF m 65 #[.val (.int p1), .val (.int p2), .val (.int nv), .val (.int kv), .val (.ref b1), .val (.int (1 : Int32)), .unset] [(.ref b1)]))
    refine ownCallV X44 hx hZ hown (hw _ (List.mem_of_getElem? (i := 24) rfl)) (hw _ (List.mem_of_getElem? (i := 25) rfl)) (hw _ (List.mem_of_getElem? (i := 27) rfl)) (hw _ (List.mem_of_getElem? (i := 27) rfl)) (hw _ (List.mem_of_getElem? (i := 26) rfl)) (hw _ (List.mem_of_getElem? (i := 3) rfl)) (hw _ (List.mem_of_getElem? (i := 28) rfl)) (by decide) (rfl : T44.heap = T44.heap) E_b1 (own_atend l Z a0 hw b1 T44.heap n0 b2 k_b2 nv nv (List.replicate N (.int (0 : Int32))) (.int (0 : Int32)) Z0 F_b1_bytes F_b1_position E_b1 A_b2 ne_b1_b2) (by rw [hml]; rfl) [] [] (lenOf own_pd5 rfl) rfl rfl 0 rfl (hb hby at_65) (by decide) (by decide) (by decide) (by decide) ?_
    intro v45 T45 L45 X45 hq45
    obtain ⟨rfl, N45q, eq45⟩ := hq45
    have N45 := Fr.app N44 N45q
    have e45 : T45.heap = T44.heap := eq45
    show ownFin _ _ _ _ _ (T45.setTop (mkF m 68 #[.val (.int p1), .val (.int p2), .val (.int nv), .val (.int kv), .val (.ref b1), .val (.int (1 : Int32)), .unset] [(.int (own_ae nv nv))]))
    refine ownVia (fun _ k => XS.istore X45.here hx rfl (hb hby at_68) rfl (l' := #[.val (.int p1), .val (.int p2), .val (.int nv), .val (.int kv), .val (.ref b1), .val (.int (1 : Int32)), .val (.int (own_ae nv nv))]) rfl k) ?_
    show ownFin _ _ _ _ _ (T45.setTop (mkF m 70 #[.val (.int p1), .val (.int p2), .val (.int nv), .val (.int kv), .val (.ref b1), .val (.int (1 : Int32)), .val (.int (own_ae nv nv))] []))
    refine ownVia (fun _ k => XS.iload X45.here hx rfl (hb hby at_70) rfl k) ?_
    show ownFin _ _ _ _ _ (T45.setTop (mkF m 72 #[.val (.int p1), .val (.int p2), .val (.int nv), .val (.int kv), .val (.ref b1), .val (.int (1 : Int32)), .val (.int (own_ae nv nv))] [(.int (1 : Int32))]))
    refine ownVia (fun _ k => XS.ifNo X45.here hx rfl (hb hby at_72) rfl ((if0 _ _).trans (feq (by decide)).1) k) ?_
    show ownFin _ _ _ _ _ (T45.setTop (mkF m 75 #[.val (.int p1), .val (.int p2), .val (.int nv), .val (.int kv), .val (.ref b1), .val (.int (1 : Int32)), .val (.int (own_ae nv nv))] []))
    refine ownVia (fun _ k => XS.iload X45.here hx rfl (hb hby at_75) rfl k) ?_
    show ownFin _ _ _ _ _ (T45.setTop (mkF m 77 #[.val (.int p1), .val (.int p2), .val (.int nv), .val (.int kv), .val (.ref b1), .val (.int (1 : Int32)), .val (.int (own_ae nv nv))] [(.int (own_ae nv nv))]))
    refine ownVia (fun _ k => XS.ifNo X45.here hx rfl (hb hby at_77) rfl ((if0 _ _).trans (feq (by rw [own_ae1 rfl]; decide)).1) k) ?_
    show ownFin _ _ _ _ _ (T45.setTop (mkF m 80 #[.val (.int p1), .val (.int p2), .val (.int nv), .val (.int kv), .val (.ref b1), .val (.int (1 : Int32)), .val (.int (own_ae nv nv))] []))
    refine ownVia (fun _ k => XS.iconst X45.here hx rfl (hb hby at_80) k) ?_
    show ownFin _ _ _ _ _ (T45.setTop (mkF m 81 #[.val (.int p1), .val (.int p2), .val (.int nv), .val (.int kv), .val (.ref b1), .val (.int (1 : Int32)), .val (.int (own_ae nv nv))] [(.int (1 : Int32))]))
    refine ownVia (fun _ k => XS.goto X45.here hx rfl (pc0 := 81) (pc' := 85) rfl (hb hby at_81) (by decide) (by decide) k) ?_
    show ownFin _ _ _ _ _ (T45.setTop (mkF m 85 #[.val (.int p1), .val (.int p2), .val (.int nv), .val (.int kv), .val (.ref b1), .val (.int (1 : Int32)), .val (.int (own_ae nv nv))] [(.int (1 : Int32))]))
    refine ownRetZ X45 hx hlk hret (hb hby at_85) (by decide) (by decide) (Or.inr rfl) ?_
    show (Q_own_law Z p1 p2 h0 n0 ) (some (.int (1 : Int32))) T45.heap _
    rw [e45]
    exact ⟨rfl, N45⟩
  case neg =>
    have hc43I : ¬ kv.toInt = nv.toInt := fun q => hc43 ((own_eqi rfl rfl).mpr q)
    refine ownVia (fun _ k => XS.icmpYes X42.here hx rfl (pc0 := 39) (pc' := 46) rfl (hb hby at_39) rfl (feq hc43).2 (by decide) (by decide) k) ?_
    show ownFin _ _ _ _ _ (T42.setTop (mkF m 46 #[.val (.int p1), .val (.int p2), .val (.int nv), .val (.int kv), .val (.ref b1), .unset, .unset] [(.int (own_ae kv nv))]))
    refine ownVia (fun _ k => XS.iconst X42.here hx rfl (hb hby at_46) k) ?_
    show ownFin _ _ _ _ _ (T42.setTop (mkF m 47 #[.val (.int p1), .val (.int p2), .val (.int nv), .val (.int kv), .val (.ref b1), .unset, .unset] [(.int (0 : Int32)), (.int (own_ae kv nv))]))
    refine ownVia (fun _ k => XS.icmpNo X42.here hx rfl (hb hby at_47) rfl (teq (own_ae0 hc43)).2 k) ?_
    show ownFin _ _ _ _ _ (T42.setTop (mkF m 50 #[.val (.int p1), .val (.int p2), .val (.int nv), .val (.int kv), .val (.ref b1), .unset, .unset] []))
    refine ownVia (fun _ k => XS.iconst X42.here hx rfl (hb hby at_50) k) ?_
    show ownFin _ _ _ _ _ (T42.setTop (mkF m 51 #[.val (.int p1), .val (.int p2), .val (.int nv), .val (.int kv), .val (.ref b1), .unset, .unset] [(.int (1 : Int32))]))
    refine ownVia (fun _ k => XS.goto X42.here hx rfl (pc0 := 51) (pc' := 55) rfl (hb hby at_51) (by decide) (by decide) k) ?_
    show ownFin _ _ _ _ _ (T42.setTop (mkF m 55 #[.val (.int p1), .val (.int p2), .val (.int nv), .val (.int kv), .val (.ref b1), .unset, .unset] [(.int (1 : Int32))]))
    refine ownVia (fun _ k => XS.istore X42.here hx rfl (hb hby at_55) rfl (l' := #[.val (.int p1), .val (.int p2), .val (.int nv), .val (.int kv), .val (.ref b1), .val (.int (1 : Int32)), .unset]) rfl k) ?_
    show ownFin _ _ _ _ _ (T42.setTop (mkF m 57 #[.val (.int p1), .val (.int p2), .val (.int nv), .val (.int kv), .val (.ref b1), .val (.int (1 : Int32)), .unset] []))
    refine ownVia (fun _ k => XS.aload X42.here hx rfl (hb hby at_57) rfl rfl k) ?_
    show ownFin _ _ _ _ _ (T42.setTop (mkF m 59 #[.val (.int p1), .val (.int p2), .val (.int nv), .val (.int kv), .val (.ref b1), .val (.int (1 : Int32)), .unset] [(.ref b1)]))
    refine ownCallV X42 hx hZ hown (hw _ (List.mem_of_getElem? (i := 29) rfl)) (hw _ (List.mem_of_getElem? (i := 30) rfl)) (hw _ (List.mem_of_getElem? (i := 32) rfl)) (hw _ (List.mem_of_getElem? (i := 32) rfl)) (hw _ (List.mem_of_getElem? (i := 31) rfl)) (hw _ (List.mem_of_getElem? (i := 3) rfl)) (hw _ (List.mem_of_getElem? (i := 33) rfl)) (by decide) e42 E_b1 (own_rest l Z a0 hw b1 T41.heap n0 b2 k_b2 nv kv (List.replicate N (.int (0 : Int32))) k N Z0 F_b1_bytes F_b1_position E_b1 A_b2 E_b2 ne_b1_b2 ge_b1 hk hN (by simp) hkN (by omega)) (by rw [hml]; rfl) [] [] (lenOf own_pd6 rfl) rfl rfl 0 rfl (hb hby at_59) (by decide) (by decide) (by decide) (by decide) ?_
    intro v46 T46 L46 X46 hq46
    obtain ⟨r1, rfl, N46q, K46, F_b1_bytes, F_b1_position⟩ := hq46
    have E_b1 := E_b1.keep K46
    have A_b2 := A_b2.keep K46 (ninS (Ne.symm ne_b1_b2) nin0)
    have E_b2 := E_b2.keep K46
    have Z0 := Nat.le_trans Z0 K46.1
    have N46 := Fr.app N42 N46q
    show ownFin _ _ _ _ _ (T46.setTop (mkF m 62 #[.val (.int p1), .val (.int p2), .val (.int nv), .val (.int kv), .val (.ref b1), .val (.int (1 : Int32)), .unset] [(.ref r1)]))
    refine ownVia (fun _ k => XS.pop X46.here hx rfl (hb hby at_62) rfl rfl k) ?_
    show ownFin _ _ _ _ _ (T46.setTop (mkF m 63 #[.val (.int p1), .val (.int p2), .val (.int nv), .val (.int kv), .val (.ref b1), .val (.int (1 : Int32)), .unset] []))
    refine ownVia (fun _ k => XS.aload X46.here hx rfl (hb hby at_63) rfl rfl k) ?_
    show ownFin _ _ _ _ _ (T46.setTop (mkF m 65 #[.val (.int p1), .val (.int p2), .val (.int nv), .val (.int kv), .val (.ref b1), .val (.int (1 : Int32)), .unset] [(.ref b1)]))
    refine ownCallV X46 hx hZ hown (hw _ (List.mem_of_getElem? (i := 24) rfl)) (hw _ (List.mem_of_getElem? (i := 25) rfl)) (hw _ (List.mem_of_getElem? (i := 27) rfl)) (hw _ (List.mem_of_getElem? (i := 27) rfl)) (hw _ (List.mem_of_getElem? (i := 26) rfl)) (hw _ (List.mem_of_getElem? (i := 3) rfl)) (hw _ (List.mem_of_getElem? (i := 28) rfl)) (by decide) (rfl : T46.heap = T46.heap) E_b1 (own_atend l Z a0 hw b1 T46.heap n0 b2 k_b2 nv nv (List.replicate N (.int (0 : Int32))) (.int (0 : Int32)) Z0 F_b1_bytes F_b1_position E_b1 A_b2 ne_b1_b2) (by rw [hml]; rfl) [] [] (lenOf own_pd5 rfl) rfl rfl 0 rfl (hb hby at_65) (by decide) (by decide) (by decide) (by decide) ?_
    intro v47 T47 L47 X47 hq47
    obtain ⟨rfl, N47q, eq47⟩ := hq47
    have N47 := Fr.app N46 N47q
    have e47 : T47.heap = T46.heap := eq47
    show ownFin _ _ _ _ _ (T47.setTop (mkF m 68 #[.val (.int p1), .val (.int p2), .val (.int nv), .val (.int kv), .val (.ref b1), .val (.int (1 : Int32)), .unset] [(.int (own_ae nv nv))]))
    refine ownVia (fun _ k => XS.istore X47.here hx rfl (hb hby at_68) rfl (l' := #[.val (.int p1), .val (.int p2), .val (.int nv), .val (.int kv), .val (.ref b1), .val (.int (1 : Int32)), .val (.int (own_ae nv nv))]) rfl k) ?_
    show ownFin _ _ _ _ _ (T47.setTop (mkF m 70 #[.val (.int p1), .val (.int p2), .val (.int nv), .val (.int kv), .val (.ref b1), .val (.int (1 : Int32)), .val (.int (own_ae nv nv))] []))
    refine ownVia (fun _ k => XS.iload X47.here hx rfl (hb hby at_70) rfl k) ?_
    show ownFin _ _ _ _ _ (T47.setTop (mkF m 72 #[.val (.int p1), .val (.int p2), .val (.int nv), .val (.int kv), .val (.ref b1), .val (.int (1 : Int32)), .val (.int (own_ae nv nv))] [(.int (1 : Int32))]))
    refine ownVia (fun _ k => XS.ifNo X47.here hx rfl (hb hby at_72) rfl ((if0 _ _).trans (feq (by decide)).1) k) ?_
    show ownFin _ _ _ _ _ (T47.setTop (mkF m 75 #[.val (.int p1), .val (.int p2), .val (.int nv), .val (.int kv), .val (.ref b1), .val (.int (1 : Int32)), .val (.int (own_ae nv nv))] []))
    refine ownVia (fun _ k => XS.iload X47.here hx rfl (hb hby at_75) rfl k) ?_
    show ownFin _ _ _ _ _ (T47.setTop (mkF m 77 #[.val (.int p1), .val (.int p2), .val (.int nv), .val (.int kv), .val (.ref b1), .val (.int (1 : Int32)), .val (.int (own_ae nv nv))] [(.int (own_ae nv nv))]))
    refine ownVia (fun _ k => XS.ifNo X47.here hx rfl (hb hby at_77) rfl ((if0 _ _).trans (feq (by rw [own_ae1 rfl]; decide)).1) k) ?_
    show ownFin _ _ _ _ _ (T47.setTop (mkF m 80 #[.val (.int p1), .val (.int p2), .val (.int nv), .val (.int kv), .val (.ref b1), .val (.int (1 : Int32)), .val (.int (own_ae nv nv))] []))
    refine ownVia (fun _ k => XS.iconst X47.here hx rfl (hb hby at_80) k) ?_
    show ownFin _ _ _ _ _ (T47.setTop (mkF m 81 #[.val (.int p1), .val (.int p2), .val (.int nv), .val (.int kv), .val (.ref b1), .val (.int (1 : Int32)), .val (.int (own_ae nv nv))] [(.int (1 : Int32))]))
    refine ownVia (fun _ k => XS.goto X47.here hx rfl (pc0 := 81) (pc' := 85) rfl (hb hby at_81) (by decide) (by decide) k) ?_
    show ownFin _ _ _ _ _ (T47.setTop (mkF m 85 #[.val (.int p1), .val (.int p2), .val (.int nv), .val (.int kv), .val (.ref b1), .val (.int (1 : Int32)), .val (.int (own_ae nv nv))] [(.int (1 : Int32))]))
    refine ownRetZ X47 hx hlk hret (hb hby at_85) (by decide) (by decide) (Or.inr rfl) ?_
    show (Q_own_law Z p1 p2 h0 n0 ) (some (.int (1 : Int32))) T47.heap _
    rw [e47]
    exact ⟨rfl, N47⟩
set_option maxRecDepth 65536 in
set_option maxHeartbeats 40000000 in
theorem own_comes {Post : Tables → Env → Array Value → State → Outcome → State → Prop} (hpost : ∀ tb e args s v u, (limb_1_1.after args s (.returned v) u = true ∧ limb_1_2.after args s (.returned v) u = true ∧ True) → FrameEnd s (.returned v) u (Jvm.fieldLocs frame_1_writes args s ++ Jvm.arrayLocs frame_1_arrays args s ++ Jvm.staticLocs frame_1_statics s) 16 128 → Post tb e args s (.returned v) u) :
    ArmFor flags0 classFile x code maxLocals ret World_1 tables_1 room_1 Calls_1 rest_1 Pre_1 Post := by
  intro l hfl _ _ p e ha hc hk s m args below hf hA hF happ hP
  obtain ⟨hcalls, hrest, hpre⟩ := hP
  obtain ⟨-, -, -, hnamed, -, -, -, hat⟩ := (Spec.applies_iff hf).mp happ
  obtain ⟨hg, hn⟩ := and_e (Cond.before_iff.mp (show (Jvm.Cond.and given_1 narrow_1).before args s = true from hpre))
  obtain ⟨hcount, hg0⟩ := and_e hg
  obtain ⟨w0, w1, rfl⟩ : ∃ w0 w1 : Value, args = #[w0, w1] := by
    have hs : args.size = 2 := by simpa [Cond.value, given_1] using hcount
    obtain ⟨L⟩ := args
    match L, hs with
    | [w0, w1], _ => exact ⟨w0, w1, rfl⟩
  have hw := fun d (hd : d ∈ tables_1) => atoms_spec (ws := Jvm.Cond.code x code maxLocals ret :: tables_1) hat d (List.mem_cons_of_mem _ hd)
  have hfit : Fit s := fun {y c} hc i hi => by
    obtain ⟨ha, rfl⟩ := Array.getElem?_eq_some_iff.mp hc
    have q := List.all_eq_true.mp ((Array.all_eq_true_iff_forall_mem.mp hF) _ (Array.getElem_mem ha)) i (List.mem_range.mpr hi)
    simpa [Array.getElem?_eq_getElem hi] using q
  obtain ⟨hq0, hg1⟩ := and_e hg0
  obtain ⟨i0, ei0⟩ := is_v hq0
  obtain rfl : w0 = (.int i0) := Option.some.inj ei0
  obtain ⟨i1, ei1⟩ := is_v hg1
  obtain rfl : w1 = (.int i1) := Option.some.inj ei1
  obtain ⟨n, o, h1, h2, h3, _, L, rfl, ⟨rfl, N⟩, hq⟩ := own_law l s _ hw tables_1 i0 i1 s.heap s.heap.size  (Nat.le_refl _)  p e ha hc hk s m _ below hf ((Spec.applies_iff_loose hf).mp happ).1 ⟨rfl, State.Warmed39.refl s, rfl⟩ trivial
  refine ⟨n, _, h1, h2, h3, hpost _ _ _ _ _ _ ⟨Cond.after_iff.mpr rfl, Cond.after_iff.mpr (eq_i res_at (Term.int_eval (1)) rfl), trivial⟩ ⟨hq.1, hq.2.1, (hq.2.2.sift fun y hy => Or.inr (N y hy)).mono (by decide) (by decide)⟩⟩
theorem main_1_1 : Claimed_1_1 := own_comes fun _ _ _ _ _ _ h hF => ⟨h.1, hF⟩
theorem main_1_2 : Claimed_1_2 := own_comes fun _ _ _ _ _ _ h hF => ⟨h.2.1, hF⟩
end Jvm.Pilot.@@N@@
namespace Jvm.Pilot.@@N@@
open Jvm Jvm.ClassFile Sem Op Lib Jvm.Free Jvm.Stand Jvm.Pilot.@@N@@.Jvm.D
/-! MADE BY PROGRAM (witnessworld.py) out of the Statement's table words and the real class files: 12 classes; the members and pool entries that the words name. The judged class is class 1, her method 1. -/
namespace start1
open Jvm.ClassFile
def u (s : String) : CpInfo := .utf8 (stringToUtf16 s)
/-- a pool by its gaps: so many unusable entries, then the entry; so many at the end -/
def gap : Nat → List CpInfo → List CpInfo
  | 0, r => r
  | n + 1, r => .unusable :: gap n r
def poolList (es : List (Nat × CpInfo)) (last : Nat) : List CpInfo := es.foldr (fun e r => gap e.1 (e.2 :: r)) (gap last [])
def pool (es : List (Nat × CpInfo)) (last : Nat) : Array CpInfo := ⟨poolList es last⟩
def fileOf (pool : Array CpInfo) (this : Nat) (attrs : Array Attribute := #[]) (ms : Array MethodInfo := #[]) (fl : Nat := 33) (sup : Nat := 0) (ifs : Array Nat := #[]) (fds : Array FieldInfo := #[]) : ClassFile where
  minorVersion := 0
  majorVersion := 65
  constantPool := pool
  accessFlags := fl
  thisClass := this
  superClass := sup
  interfaces := ifs
  fields := fds
  methods := ms
  attributes := attrs
def plain (name : String) (sup : Option ClassId) : Class where
  name := name
  kind := .ordinary
  loader := none
  accessFlags := 33
  super := sup
  interfaces := #[]
  cf := none
  fields := #[]
  methods := #[]
  instanceTypes := #[]
  staticTypes := #[]
  resolved := #[]
  callSites := []
  init := .initialized
  statics := none
  mirror := none

def pool0 : Array CpInfo := pool [(5, u "<init>"), (0, u "()V"), (1, .class_ 10), (1, u "java/lang/Object"), (85, u "clone"), (0, u "()Ljava/lang/Object;")] 26

def k0c0 : Code := { maxStack := 0, maxLocals := 1, code := object_method_1_code, exceptionTable := #[], attributes := #[] }
def k0m0 : Method := { name := "<init>", desc := "()V", sig := { parameters := [], returnType := none }, accessFlags := 1, code := some k0c0 }
def k0m1 : Method := { name := "clone", desc := "()Ljava/lang/Object;", sig := { parameters := [], returnType := some (.object "java/lang/Object") }, accessFlags := 260, code := none }
/-- java/lang/Object -/
def k0 : Class := { plain "java/lang/Object" none with
  accessFlags := 33
  interfaces := #[]
  cf := some (fileOf pool0 8 #[] #[{ accessFlags := 1, nameIndex := 5, descriptorIndex := 6, attributes := #[] }, { accessFlags := 260, nameIndex := 96, descriptorIndex := 97, attributes := #[] }] 33 0 #[] #[])
  fields := #[]
  methods := #[k0m0, k0m1]
  instanceTypes := #[]
  staticTypes := #[]
  resolved := Array.replicate 124 none
  statics := none }

def pool1 : Array CpInfo := pool [(2, .class_ 4), (1, u "java/lang/Object"), (0, u "<init>"), (0, u "()V"), (0, .integer 2147483647), (0, .class_ 9), (0, u "com/example/laiskas/laiskas/protocol/Decoder"), (0, .methodref 8 11), (0, .nameAndType 5 12), (0, u "([B)V"), (0, .methodref 8 14), (0, .nameAndType 15 16), (0, u "skip"), (0, u "(I)V"), (0, .methodref 8 18), (0, .nameAndType 19 20), (0, u "atEnd"), (0, u "()Z"), (0, .methodref 8 22), (0, .nameAndType 23 24), (0, u "rest"), (0, u "()[B"), (0, .class_ 26), (0, u "com/example/laiskas/laiskas/protocol/DecoderAtEndPinLaw"), (2, u "law"), (0, u "(II)Z")] 6

def k1m0 : Method := { name := "<init>", desc := "()V", sig := { parameters := [], returnType := none }, accessFlags := 1, code := none }
def k1c1 : Code := { maxStack := 3, maxLocals := 7, code := code, exceptionTable := #[], attributes := #[] }
def k1m1 : Method := { name := "law", desc := "(II)Z", sig := { parameters := [.int, .int], returnType := some .boolean }, accessFlags := 9, code := some k1c1 }
/-- com/example/laiskas/laiskas/protocol/DecoderAtEndPinLaw -/
def k1 : Class := { plain "com/example/laiskas/laiskas/protocol/DecoderAtEndPinLaw" (some 0) with
  accessFlags := 49
  interfaces := #[]
  cf := some (fileOf pool1 25 #[] #[{ accessFlags := 1, nameIndex := 5, descriptorIndex := 6, attributes := #[] }, { accessFlags := 9, nameIndex := 29, descriptorIndex := 30, attributes := #[] }] 49 2 #[] #[])
  fields := #[]
  methods := #[k1m0, k1m1]
  instanceTypes := #[]
  staticTypes := #[]
  resolved := Array.replicate 37 none
  statics := none }

def pool2 : Array CpInfo := pool [(1, .methodref 2 3), (0, .class_ 4), (0, .nameAndType 5 6), (0, u "java/lang/Object"), (0, u "<init>"), (0, u "()V"), (0, .fieldref 8 9), (0, .class_ 10), (0, .nameAndType 11 12), (0, u "com/example/laiskas/laiskas/protocol/Decoder"), (0, u "bytes"), (0, u "[B"), (0, .methodref 8 14), (0, .nameAndType 15 16), (0, u "require"), (0, u "(I)V"), (0, .fieldref 8 18), (0, .nameAndType 19 20), (0, u "position"), (0, u "I"), (13, .methodref 35 36), (0, .class_ 37), (0, .nameAndType 38 39), (0, u "java/util/Arrays"), (0, u "copyOfRange"), (0, u "([BII)[B"), (12, u "atEnd"), (0, u "()Z"), (4, u "([B)V"), (9, u "skip"), (1, u "()[B"), (1, u "rest")] 22

def k2c0 : Code := { maxStack := 2, maxLocals := 2, code := prog_10_method_1_code, exceptionTable := #[], attributes := #[] }
def k2m0 : Method := { name := "<init>", desc := "([B)V", sig := { parameters := [(.array .byte)], returnType := none }, accessFlags := 1, code := some k2c0 }
def k2c1 : Code := { maxStack := 3, maxLocals := 2, code := prog_10_method_8_code, exceptionTable := #[], attributes := #[] }
def k2m1 : Method := { name := "skip", desc := "(I)V", sig := { parameters := [.int], returnType := none }, accessFlags := 1, code := some k2c1 }
def k2c2 : Code := { maxStack := 3, maxLocals := 2, code := prog_10_method_11_code, exceptionTable := #[], attributes := #[] }
def k2m2 : Method := { name := "rest", desc := "()[B", sig := { parameters := [], returnType := some (.array .byte) }, accessFlags := 1, code := some k2c2 }
def k2c3 : Code := { maxStack := 2, maxLocals := 1, code := prog_10_method_12_code, exceptionTable := #[], attributes := #[] }
def k2m3 : Method := { name := "atEnd", desc := "()Z", sig := { parameters := [], returnType := some .boolean }, accessFlags := 1, code := some k2c3 }
def k2c4 : Code := { maxStack := 5, maxLocals := 2, code := prog_10_method_14_code, exceptionTable := #[], attributes := #[] }
def k2m4 : Method := { name := "require", desc := "(I)V", sig := { parameters := [.int], returnType := none }, accessFlags := 2, code := some k2c4 }
/-- com/example/laiskas/laiskas/protocol/Decoder -/
def k2 : Class := { plain "com/example/laiskas/laiskas/protocol/Decoder" (some 0) with
  accessFlags := 49
  interfaces := #[]
  cf := some (fileOf pool2 8 #[] #[{ accessFlags := 1, nameIndex := 5, descriptorIndex := 58, attributes := #[] }, { accessFlags := 1, nameIndex := 68, descriptorIndex := 16, attributes := #[] }, { accessFlags := 1, nameIndex := 72, descriptorIndex := 70, attributes := #[] }, { accessFlags := 1, nameIndex := 52, descriptorIndex := 53, attributes := #[] }, { accessFlags := 2, nameIndex := 15, descriptorIndex := 16, attributes := #[] }] 49 2 #[] #[{ accessFlags := 18, nameIndex := 11, descriptorIndex := 12, attributes := #[] }, { accessFlags := 2, nameIndex := 19, descriptorIndex := 20, attributes := #[] }])
  fields := #[{ name := "bytes", type := (.array .byte), accessFlags := 18, slot := 0, constantValue := 0 }, { name := "position", type := .int, accessFlags := 2, slot := 1, constantValue := 0 }]
  methods := #[k2m0, k2m1, k2m2, k2m3, k2m4]
  instanceTypes := #[(.array .byte), .int]
  staticTypes := #[]
  resolved := Array.replicate 95 none
  statics := none }

def pool3 : Array CpInfo := pool [(2, .class_ 4), (1, u "java/lang/Object"), (0, u "<init>"), (0, u "()V"), (7, .class_ 16), (1, u "java/util/Arrays"), (57, .class_ 76), (1, u "java/util/Arrays$NaturalOrder"), (32, u "()Ljava/lang/Object;"), (3, .class_ 115), (1, u "java/util/Arrays$LegacyMergeSort"), (1, u "Z"), (10, .nameAndType 129 109), (0, u "clone"), (9, u "copyOfRange"), (10, .methodref 151 152), (0, .class_ 153), (0, .nameAndType 154 155), (0, u "java/lang/System"), (0, u "arraycopy"), (0, u "(Ljava/lang/Object;ILjava/lang/Object;II)V"), (148, .methodref 305 306), (0, .class_ 307), (0, .nameAndType 308 309), (0, u "java/lang/Math"), (0, u "min"), (0, u "(II)I"), (0, .methodref 311 128), (0, .class_ 312), (0, u "[B"), (26, .methodref 14 340), (0, .nameAndType 341 342), (0, u "copyOfRangeByte"), (0, u "([BII)[B"), (0, .methodref 14 344), (0, .nameAndType 345 346), (0, u "checkLength"), (0, u "(II)V"), (28, .class_ 376), (0, u "java/util/Arrays$ArrayList"), (68, u "$assertionsDisabled"), (269, u "MIN_ARRAY_SORT_GRAN"), (0, u "I"), (2, u "INSERTIONSORT_THRESHOLD"), (255, .class_ 976), (0, u "java/util/Arrays$ArrayItr")] 52

def k3m0 : Method := { name := "<init>", desc := "()V", sig := { parameters := [], returnType := none }, accessFlags := 2, code := none }
def k3c1 : Code := { maxStack := 4, maxLocals := 2, code := jdk_65_method_131_code, exceptionTable := #[], attributes := #[] }
def k3m1 : Method := { name := "checkLength", desc := "(II)V", sig := { parameters := [.int, .int], returnType := none }, accessFlags := 10, code := some k3c1 }
def k3c2 : Code := { maxStack := 3, maxLocals := 3, code := jdk_65_method_132_code, exceptionTable := #[], attributes := #[] }
def k3m2 : Method := { name := "copyOfRange", desc := "([BII)[B", sig := { parameters := [(.array .byte), .int, .int], returnType := some (.array .byte) }, accessFlags := 9, code := some k3c2 }
def k3c3 : Code := { maxStack := 6, maxLocals := 5, code := jdk_65_method_133_code, exceptionTable := #[], attributes := #[] }
def k3m3 : Method := { name := "copyOfRangeByte", desc := "([BII)[B", sig := { parameters := [(.array .byte), .int, .int], returnType := some (.array .byte) }, accessFlags := 10, code := some k3c3 }
/-- java/util/Arrays -/
def k3 : Class := { plain "java/util/Arrays" (some 0) with
  accessFlags := 49
  interfaces := #[]
  cf := some (fileOf pool3 14 #[.nestMembers #[975, 375, 113, 74]] #[{ accessFlags := 2, nameIndex := 5, descriptorIndex := 6, attributes := #[] }, { accessFlags := 10, nameIndex := 345, descriptorIndex := 346, attributes := #[] }, { accessFlags := 9, nameIndex := 139, descriptorIndex := 342, attributes := #[] }, { accessFlags := 10, nameIndex := 341, descriptorIndex := 342, attributes := #[] }] 49 2 #[] #[{ accessFlags := 26, nameIndex := 715, descriptorIndex := 716, attributes := #[] }, { accessFlags := 26, nameIndex := 719, descriptorIndex := 716, attributes := #[] }, { accessFlags := 4120, nameIndex := 445, descriptorIndex := 117, attributes := #[] }])
  fields := #[{ name := "MIN_ARRAY_SORT_GRAN", type := .int, accessFlags := 26, slot := 0, constantValue := 0 }, { name := "INSERTIONSORT_THRESHOLD", type := .int, accessFlags := 26, slot := 1, constantValue := 0 }, { name := "$assertionsDisabled", type := .boolean, accessFlags := 4120, slot := 2, constantValue := 0 }]
  methods := #[k3m0, k3m1, k3m2, k3m3]
  instanceTypes := #[]
  staticTypes := #[.int, .int, .boolean]
  resolved := Array.replicate 1029 none
  statics := none }

def pool4 : Array CpInfo := pool [(1, .class_ 2), (0, u "java/lang/Cloneable"), (0, .class_ 4), (0, u "java/lang/Object")] 2

/-- java/lang/Cloneable -/
def k4 : Class := { plain "java/lang/Cloneable" (some 0) with
  accessFlags := 1537
  interfaces := #[]
  cf := some (fileOf pool4 1 #[] #[] 1537 3 #[] #[])
  fields := #[]
  methods := #[]
  instanceTypes := #[]
  staticTypes := #[]
  resolved := Array.replicate 7 none
  statics := none }

def pool5 : Array CpInfo := pool [(1, .class_ 2), (0, u "java/lang/Math"), (1, .class_ 6), (1, u "java/lang/Object"), (0, u "<init>"), (0, u "()V"), (89, .class_ 100), (1, u "java/lang/Math$RandomNumberGeneratorHolder"), (71, u "negativeZeroFloatBits"), (0, u "J"), (2, u "negativeZeroDoubleBits"), (24, u "min"), (43, u "$assertionsDisabled"), (0, u "Z"), (88, u "(II)I"), (2, u "twoToTheDoubleScaleDown"), (0, u "D"), (4, u "twoToTheDoubleScaleUp"), (9, u "E"), (3, u "PI"), (2, u "TAU"), (2, u "DEGREES_TO_RADIANS"), (0, u "RADIANS_TO_DEGREES")] 94

def k5m0 : Method := { name := "<init>", desc := "()V", sig := { parameters := [], returnType := none }, accessFlags := 2, code := none }
def k5c1 : Code := { maxStack := 2, maxLocals := 2, code := jdk_29_method_69_code, exceptionTable := #[], attributes := #[] }
def k5m1 : Method := { name := "min", desc := "(II)I", sig := { parameters := [.int, .int], returnType := some .int }, accessFlags := 9, code := some k5c1 }
/-- java/lang/Math -/
def k5 : Class := { plain "java/lang/Math" (some 0) with
  accessFlags := 49
  interfaces := #[]
  cf := some (fileOf pool5 1 #[.nestMembers #[98]] #[{ accessFlags := 2, nameIndex := 7, descriptorIndex := 8, attributes := #[] }, { accessFlags := 9, nameIndex := 201, descriptorIndex := 335, attributes := #[] }] 49 4 #[] #[{ accessFlags := 25, nameIndex := 354, descriptorIndex := 339, attributes := #[] }, { accessFlags := 25, nameIndex := 358, descriptorIndex := 339, attributes := #[] }, { accessFlags := 25, nameIndex := 361, descriptorIndex := 339, attributes := #[] }, { accessFlags := 26, nameIndex := 364, descriptorIndex := 339, attributes := #[] }, { accessFlags := 26, nameIndex := 365, descriptorIndex := 339, attributes := #[] }, { accessFlags := 26, nameIndex := 172, descriptorIndex := 173, attributes := #[] }, { accessFlags := 26, nameIndex := 176, descriptorIndex := 173, attributes := #[] }, { accessFlags := 8, nameIndex := 344, descriptorIndex := 339, attributes := #[] }, { accessFlags := 8, nameIndex := 338, descriptorIndex := 339, attributes := #[] }, { accessFlags := 4120, nameIndex := 245, descriptorIndex := 246, attributes := #[] }])
  fields := #[{ name := "E", type := .double, accessFlags := 25, slot := 0, constantValue := 0 }, { name := "PI", type := .double, accessFlags := 25, slot := 1, constantValue := 0 }, { name := "TAU", type := .double, accessFlags := 25, slot := 2, constantValue := 0 }, { name := "DEGREES_TO_RADIANS", type := .double, accessFlags := 26, slot := 3, constantValue := 0 }, { name := "RADIANS_TO_DEGREES", type := .double, accessFlags := 26, slot := 4, constantValue := 0 }, { name := "negativeZeroFloatBits", type := .long, accessFlags := 26, slot := 5, constantValue := 0 }, { name := "negativeZeroDoubleBits", type := .long, accessFlags := 26, slot := 6, constantValue := 0 }, { name := "twoToTheDoubleScaleUp", type := .double, accessFlags := 8, slot := 7, constantValue := 0 }, { name := "twoToTheDoubleScaleDown", type := .double, accessFlags := 8, slot := 8, constantValue := 0 }, { name := "$assertionsDisabled", type := .boolean, accessFlags := 4120, slot := 9, constantValue := 0 }]
  methods := #[k5m0, k5m1]
  instanceTypes := #[]
  staticTypes := #[.double, .double, .double, .double, .double, .long, .long, .double, .double, .boolean]
  resolved := Array.replicate 460 none
  statics := none }

def pool6 : Array CpInfo := pool [(2, .class_ 4), (1, u "java/lang/Object"), (0, u "<init>"), (0, u "()V"), (1, .class_ 10), (1, u "java/lang/System"), (0, u "allowSecurityManager"), (0, u "I"), (16, u "cons"), (0, u "Ljava/io/Console;"), (77, .class_ 110), (1, u "java/lang/System$CallersHolder"), (43, u "initialErrStream"), (0, u "Ljava/io/PrintStream;"), (19, u "security"), (0, u "Ljava/lang/SecurityManager;"), (31, .class_ 209), (0, u "java/lang/System$1"), (7, u "props"), (0, u "Ljava/util/Properties;"), (2, u "lineSeparator"), (0, u "Ljava/lang/String;"), (96, .class_ 321), (1, u "java/lang/System$LoggerFinder"), (5, .class_ 328), (0, u "java/lang/System$Logger"), (67, u "err"), (2, u "out"), (91, u "notSupportedJnuEncoding"), (15, u "in"), (17, u "initialIn"), (0, u "Ljava/io/InputStream;"), (35, u "bootLayer"), (0, u "Ljava/lang/ModuleLayer;"), (99, .class_ 664), (0, u "java/lang/System$2"), (9, u "NEVER"), (2, u "MAYBE"), (49, u "arraycopy"), (0, u "(Ljava/lang/Object;ILjava/lang/Object;II)V"), (72, .class_ 802), (0, u "java/lang/System$Logger$Level")] 31

def k6m0 : Method := { name := "<init>", desc := "()V", sig := { parameters := [], returnType := none }, accessFlags := 2, code := none }
def k6m1 : Method := { name := "arraycopy", desc := "(Ljava/lang/Object;ILjava/lang/Object;II)V", sig := { parameters := [(.object "java/lang/Object"), .int, (.object "java/lang/Object"), .int, .int], returnType := none }, accessFlags := 265, code := none }
/-- java/lang/System -/
def k6 : Class := { plain "java/lang/System" (some 0) with
  accessFlags := 49
  interfaces := #[]
  cf := some (fileOf pool6 8 #[.nestMembers #[319, 327, 801, 108, 663, 208]] #[{ accessFlags := 2, nameIndex := 5, descriptorIndex := 6, attributes := #[] }, { accessFlags := 265, nameIndex := 727, descriptorIndex := 728, attributes := #[] }] 49 2 #[] #[{ accessFlags := 25, nameIndex := 507, descriptorIndex := 526, attributes := #[] }, { accessFlags := 25, nameIndex := 399, descriptorIndex := 155, attributes := #[] }, { accessFlags := 25, nameIndex := 396, descriptorIndex := 155, attributes := #[] }, { accessFlags := 10, nameIndex := 525, descriptorIndex := 526, attributes := #[] }, { accessFlags := 26, nameIndex := 674, descriptorIndex := 12, attributes := #[] }, { accessFlags := 26, nameIndex := 677, descriptorIndex := 12, attributes := #[] }, { accessFlags := 10, nameIndex := 11, descriptorIndex := 12, attributes := #[] }, { accessFlags := 74, nameIndex := 175, descriptorIndex := 176, attributes := #[] }, { accessFlags := 10, nameIndex := 491, descriptorIndex := 222, attributes := #[] }, { accessFlags := 74, nameIndex := 29, descriptorIndex := 30, attributes := #[] }, { accessFlags := 74, nameIndex := 154, descriptorIndex := 155, attributes := #[] }, { accessFlags := 10, nameIndex := 217, descriptorIndex := 218, attributes := #[] }, { accessFlags := 10, nameIndex := 221, descriptorIndex := 222, attributes := #[] }, { accessFlags := 8, nameIndex := 562, descriptorIndex := 563, attributes := #[] }])
  fields := #[{ name := "in", type := (.object "java/io/InputStream"), accessFlags := 25, slot := 0, constantValue := 0 }, { name := "out", type := (.object "java/io/PrintStream"), accessFlags := 25, slot := 1, constantValue := 0 }, { name := "err", type := (.object "java/io/PrintStream"), accessFlags := 25, slot := 2, constantValue := 0 }, { name := "initialIn", type := (.object "java/io/InputStream"), accessFlags := 10, slot := 3, constantValue := 0 }, { name := "NEVER", type := .int, accessFlags := 26, slot := 4, constantValue := 0 }, { name := "MAYBE", type := .int, accessFlags := 26, slot := 5, constantValue := 0 }, { name := "allowSecurityManager", type := .int, accessFlags := 10, slot := 6, constantValue := 0 }, { name := "security", type := (.object "java/lang/SecurityManager"), accessFlags := 74, slot := 7, constantValue := 0 }, { name := "notSupportedJnuEncoding", type := (.object "java/lang/String"), accessFlags := 10, slot := 8, constantValue := 0 }, { name := "cons", type := (.object "java/io/Console"), accessFlags := 74, slot := 9, constantValue := 0 }, { name := "initialErrStream", type := (.object "java/io/PrintStream"), accessFlags := 74, slot := 10, constantValue := 0 }, { name := "props", type := (.object "java/util/Properties"), accessFlags := 10, slot := 11, constantValue := 0 }, { name := "lineSeparator", type := (.object "java/lang/String"), accessFlags := 10, slot := 12, constantValue := 0 }, { name := "bootLayer", type := (.object "java/lang/ModuleLayer"), accessFlags := 8, slot := 13, constantValue := 0 }]
  methods := #[k6m0, k6m1]
  instanceTypes := #[]
  staticTypes := #[(.object "java/io/InputStream"), (.object "java/io/PrintStream"), (.object "java/io/PrintStream"), (.object "java/io/InputStream"), .int, .int, .int, (.object "java/lang/SecurityManager"), (.object "java/lang/String"), (.object "java/io/Console"), (.object "java/io/PrintStream"), (.object "java/util/Properties"), (.object "java/lang/String"), (.object "java/lang/ModuleLayer")]
  resolved := Array.replicate 834 none
  statics := none }

def pool7 : Array CpInfo := pool [(1, u "java/io/Serializable"), (0, .class_ 1), (0, u "java/lang/Object"), (0, .class_ 3)] 3

/-- java/io/Serializable -/
def k7 : Class := { plain "java/io/Serializable" (some 0) with
  accessFlags := 1537
  interfaces := #[]
  cf := some (fileOf pool7 2 #[] #[] 1537 4 #[] #[])
  fields := #[]
  methods := #[]
  instanceTypes := #[]
  staticTypes := #[]
  resolved := Array.replicate 8 none
  statics := none }

/-- the primitive byte -/
def k8 : Class := { plain "byte" none with kind := .primitive 'B', accessFlags := 0x411 }
/-- [B -/
def k9 : Class := { plain "[B" (some 0) with kind := .array 8 .byte, interfaces := #[4, 7], accessFlags := 1041 }

/-- the primitive int -/
def k10 : Class := { plain "int" none with kind := .primitive 'I', accessFlags := 0x411 }
/-- [I -/
def k11 : Class := { plain "[I" (some 0) with kind := .array 10 .int, interfaces := #[4, 7], accessFlags := 1041 }

def heap : Heap := #[]
def classes : Array Class := #[k0, k1, k2, k3, k4, k5, k6, k7, k8, k9, k10, k11]
def interned : List (Array UInt16 × Addr) := []
def slotsUsed : Nat := 0
def theMethod : MethodId := ⟨1, 1⟩
def args0 : Array Value := #[.int 5, .int 3]
def aboutOver (below : List Frame) : State where
  vm := { classes := classes, interned := interned.toArray }
  heap := heap
  slotsUsed := slotsUsed
  threads := #[{ frames := .invoking theMethod args0 :: below }]
def below0 : List Frame := [.native { method := ⟨0, 0⟩, args := #[] }]
def about1 : State := aboutOver below0
def p0 : Program := .bare "" "" ""
def e0 : Env := launch0.env 0 0 0
theorem w_frames : about1.frames = Frame.invoking theMethod args0 :: below0 := rfl
set_option maxRecDepth 65536 in
theorem w_args : argsFit about1.vm theMethod args0 = true := by decide +kernel
set_option maxRecDepth 65536 in
theorem w_heap : heapFits about1 = true := by decide +kernel
set_option maxRecDepth 65536 in
theorem w_runnable : about1.curStatus? = some .runnable := by decide +kernel
set_option maxRecDepth 65536 in
theorem w_alone : about1.alone = true := by decide +kernel
set_option maxRecDepth 65536 in
theorem w_named : about1.methodNamed? x = some theMethod := by decide +kernel
set_option maxRecDepth 65536 in
theorem w_hears : about1.hears theMethod below0 = true := by decide +kernel
set_option maxRecDepth 65536 in
theorem w_ripe : about1.ripe theMethod args0 below0 = true := by decide +kernel
theorem w_running : about1.status = .running := rfl
set_option maxRecDepth 65536 in
theorem w_room : about1.hasRoom e0.platform room_1 = true :=
  launch0.hasRoom_least _ room_1 (by decide +kernel) (by decide +kernel) (by decide +kernel) (by decide +kernel) (by decide +kernel) (by decide +kernel)
theorem allAtoms_all (ts : List Jvm.Cond) (a : Array Jvm.Value) (st : Jvm.State) : (allAtoms ts).before a st = ts.all (fun c => c.before a st) := by
  induction ts with
  | nil => rfl
  | cons c t ih =>
    show (Jvm.Cond.and c (allAtoms t)).before a st = _
    rw [Jvm.Cond.before_and, ih, List.all_cons]
def words1 : List Jvm.Cond := Jvm.Cond.code x code maxLocals ret :: tables_1
/-- a 'code' word, met by the world's own term for the bytes: nothing is compared byte by byte -/
theorem code_word {y : MethodName} {bytes : ByteArray} {mx : Nat} {rt : Option FieldType} {a : Array Value} {s : State} {m : MethodId} {meth : Method} {c : Code} (h1 : s.methodNamed? y = some m) (h2 : s.vm.method? m = some meth) (h3 : meth.code = some c) (h4 : c.code = bytes)
    (h5 : (c.maxLocals == mx && c.exceptionTable.isEmpty && decide (c.maxStack ≤ mostOperands) && decide (meth.sig.returnType = rt) && !meth.locks && decide (parseMethodDescriptor y.desc = some meth.sig)) = true) : (Jvm.Cond.code y bytes mx rt).before a s = true := by
  simp only [Bool.and_eq_true, beq_iff_eq, Bool.not_eq_true', decide_eq_true_eq] at h5
  obtain ⟨⟨⟨⟨⟨g1, g2⟩, g3⟩, g4⟩, g5⟩, g6⟩ := h5
  simp [Cond.before, Cond.holds, Cond.value, h1, h2, h3, h4, g1, g2, g3, g4, g5, g6]
def isCode : Jvm.Cond → Bool
  | .code _ _ _ _ => true
  | _ => false
theorem all_split {L : List Jvm.Cond} {P : Jvm.Cond → Bool} (h1 : L.all (fun c => isCode c || P c) = true) (h2 : ∀ c ∈ L.filter isCode, P c = true) : L.all P = true := by
  refine List.all_eq_true.mpr fun c hc => ?_
  have h := List.all_eq_true.mp h1 c hc
  rcases Bool.eq_false_or_eq_true (isCode c) with hi | hi
  · exact h2 c (List.mem_filter.mpr ⟨hc, hi⟩)
  · simpa [hi] using h
set_option maxRecDepth 65536 in
theorem w_c0 : (Jvm.Cond.code x code maxLocals ret).before args0 about1 = true := code_word (m := ⟨1, 1⟩) (meth := k1m1) (c := k1c1) (by decide +kernel) rfl rfl rfl (by decide +kernel)
set_option maxRecDepth 65536 in
theorem w_c1 : (Jvm.Cond.code ({ cls := "com/example/laiskas/laiskas/protocol/Decoder", name := "<init>", desc := "([B)V" } : Jvm.MethodName) prog_10_method_1_code (2 : Nat) (Option.none : Option Jvm.ClassFile.FieldType)).before args0 about1 = true := code_word (m := ⟨2, 0⟩) (meth := k2m0) (c := k2c0) (by decide +kernel) rfl rfl rfl (by decide +kernel)
set_option maxRecDepth 65536 in
theorem w_c2 : (Jvm.Cond.code ({ cls := "java/lang/Object", name := "<init>", desc := "()V" } : Jvm.MethodName) object_method_1_code (1 : Nat) (Option.none : Option Jvm.ClassFile.FieldType)).before args0 about1 = true := code_word (m := ⟨0, 0⟩) (meth := k0m0) (c := k0c0) (by decide +kernel) rfl rfl rfl (by decide +kernel)
set_option maxRecDepth 65536 in
theorem w_c3 : (Jvm.Cond.code ({ cls := "com/example/laiskas/laiskas/protocol/Decoder", name := "skip", desc := "(I)V" } : Jvm.MethodName) prog_10_method_8_code (2 : Nat) (Option.none : Option Jvm.ClassFile.FieldType)).before args0 about1 = true := code_word (m := ⟨2, 1⟩) (meth := k2m1) (c := k2c1) (by decide +kernel) rfl rfl rfl (by decide +kernel)
set_option maxRecDepth 65536 in
theorem w_c4 : (Jvm.Cond.code ({ cls := "com/example/laiskas/laiskas/protocol/Decoder", name := "require", desc := "(I)V" } : Jvm.MethodName) prog_10_method_14_code (2 : Nat) (Option.none : Option Jvm.ClassFile.FieldType)).before args0 about1 = true := code_word (m := ⟨2, 4⟩) (meth := k2m4) (c := k2c4) (by decide +kernel) rfl rfl rfl (by decide +kernel)
set_option maxRecDepth 65536 in
theorem w_c5 : (Jvm.Cond.code ({ cls := "com/example/laiskas/laiskas/protocol/Decoder", name := "atEnd", desc := "()Z" } : Jvm.MethodName) prog_10_method_12_code (1 : Nat) (Option.some Jvm.ClassFile.FieldType.boolean)).before args0 about1 = true := code_word (m := ⟨2, 3⟩) (meth := k2m3) (c := k2c3) (by decide +kernel) rfl rfl rfl (by decide +kernel)
set_option maxRecDepth 65536 in
theorem w_c6 : (Jvm.Cond.code ({ cls := "com/example/laiskas/laiskas/protocol/Decoder", name := "rest", desc := "()[B" } : Jvm.MethodName) prog_10_method_11_code (2 : Nat) (Option.some (Jvm.ClassFile.FieldType.array Jvm.ClassFile.FieldType.byte))).before args0 about1 = true := code_word (m := ⟨2, 2⟩) (meth := k2m2) (c := k2c2) (by decide +kernel) rfl rfl rfl (by decide +kernel)
set_option maxRecDepth 65536 in
theorem w_c7 : (Jvm.Cond.code ({ cls := "java/util/Arrays", name := "copyOfRange", desc := "([BII)[B" } : Jvm.MethodName) jdk_65_method_132_code (3 : Nat) (Option.some (Jvm.ClassFile.FieldType.array Jvm.ClassFile.FieldType.byte))).before args0 about1 = true := code_word (m := ⟨3, 2⟩) (meth := k3m2) (c := k3c2) (by decide +kernel) rfl rfl rfl (by decide +kernel)
set_option maxRecDepth 65536 in
theorem w_c8 : (Jvm.Cond.code ({ cls := "java/util/Arrays", name := "copyOfRangeByte", desc := "([BII)[B" } : Jvm.MethodName) jdk_65_method_133_code (5 : Nat) (Option.some (Jvm.ClassFile.FieldType.array Jvm.ClassFile.FieldType.byte))).before args0 about1 = true := code_word (m := ⟨3, 3⟩) (meth := k3m3) (c := k3c3) (by decide +kernel) rfl rfl rfl (by decide +kernel)
set_option maxRecDepth 65536 in
theorem w_c9 : (Jvm.Cond.code ({ cls := "java/util/Arrays", name := "checkLength", desc := "(II)V" } : Jvm.MethodName) jdk_65_method_131_code (2 : Nat) (Option.none : Option Jvm.ClassFile.FieldType)).before args0 about1 = true := code_word (m := ⟨3, 1⟩) (meth := k3m1) (c := k3c1) (by decide +kernel) rfl rfl rfl (by decide +kernel)
set_option maxRecDepth 65536 in
theorem w_c10 : (Jvm.Cond.code ({ cls := "java/lang/Math", name := "min", desc := "(II)I" } : Jvm.MethodName) jdk_29_method_69_code (2 : Nat) (Option.some Jvm.ClassFile.FieldType.int)).before args0 about1 = true := code_word (m := ⟨5, 1⟩) (meth := k5m1) (c := k5c1) (by decide +kernel) rfl rfl rfl (by decide +kernel)
def codes1 : List Jvm.Cond := [Jvm.Cond.code x code maxLocals ret, Jvm.Cond.code ({ cls := "com/example/laiskas/laiskas/protocol/Decoder", name := "<init>", desc := "([B)V" } : Jvm.MethodName) prog_10_method_1_code (2 : Nat) (Option.none : Option Jvm.ClassFile.FieldType), Jvm.Cond.code ({ cls := "java/lang/Object", name := "<init>", desc := "()V" } : Jvm.MethodName) object_method_1_code (1 : Nat) (Option.none : Option Jvm.ClassFile.FieldType), Jvm.Cond.code ({ cls := "com/example/laiskas/laiskas/protocol/Decoder", name := "skip", desc := "(I)V" } : Jvm.MethodName) prog_10_method_8_code (2 : Nat) (Option.none : Option Jvm.ClassFile.FieldType), Jvm.Cond.code ({ cls := "com/example/laiskas/laiskas/protocol/Decoder", name := "require", desc := "(I)V" } : Jvm.MethodName) prog_10_method_14_code (2 : Nat) (Option.none : Option Jvm.ClassFile.FieldType), Jvm.Cond.code ({ cls := "com/example/laiskas/laiskas/protocol/Decoder", name := "atEnd", desc := "()Z" } : Jvm.MethodName) prog_10_method_12_code (1 : Nat) (Option.some Jvm.ClassFile.FieldType.boolean), Jvm.Cond.code ({ cls := "com/example/laiskas/laiskas/protocol/Decoder", name := "rest", desc := "()[B" } : Jvm.MethodName) prog_10_method_11_code (2 : Nat) (Option.some (Jvm.ClassFile.FieldType.array Jvm.ClassFile.FieldType.byte)), Jvm.Cond.code ({ cls := "java/util/Arrays", name := "copyOfRange", desc := "([BII)[B" } : Jvm.MethodName) jdk_65_method_132_code (3 : Nat) (Option.some (Jvm.ClassFile.FieldType.array Jvm.ClassFile.FieldType.byte)), Jvm.Cond.code ({ cls := "java/util/Arrays", name := "copyOfRangeByte", desc := "([BII)[B" } : Jvm.MethodName) jdk_65_method_133_code (5 : Nat) (Option.some (Jvm.ClassFile.FieldType.array Jvm.ClassFile.FieldType.byte)), Jvm.Cond.code ({ cls := "java/util/Arrays", name := "checkLength", desc := "(II)V" } : Jvm.MethodName) jdk_65_method_131_code (2 : Nat) (Option.none : Option Jvm.ClassFile.FieldType), Jvm.Cond.code ({ cls := "java/lang/Math", name := "min", desc := "(II)I" } : Jvm.MethodName) jdk_29_method_69_code (2 : Nat) (Option.some Jvm.ClassFile.FieldType.int)]
set_option maxRecDepth 65536 in
theorem codes_eq : words1.filter isCode = codes1 := rfl
theorem w_codes : ∀ c ∈ words1.filter isCode, c.before args0 about1 = true := by
  rw [codes_eq]
  intro c hc
  simp only [codes1, List.mem_cons, List.not_mem_nil, or_false] at hc
  rcases hc with rfl | rfl | rfl | rfl | rfl | rfl | rfl | rfl | rfl | rfl | rfl
  · exact w_c0
  · exact w_c1
  · exact w_c2
  · exact w_c3
  · exact w_c4
  · exact w_c5
  · exact w_c6
  · exact w_c7
  · exact w_c8
  · exact w_c9
  · exact w_c10
set_option maxRecDepth 65536 in
theorem w_t1 : (words1.take 24).all (fun c => isCode c || c.before args0 about1) = true := by decide +kernel
set_option maxRecDepth 65536 in
theorem w_t2 : ((words1.drop 24).take 24).all (fun c => isCode c || c.before args0 about1) = true := by decide +kernel
set_option maxRecDepth 65536 in
theorem w_t3 : ((words1.drop 24).drop 24).all (fun c => isCode c || c.before args0 about1) = true := by decide +kernel
theorem w_tables : (allAtoms (Jvm.Cond.code x code maxLocals ret :: tables_1)).before args0 about1 = true := by
  rw [allAtoms_all]
  show words1.all (fun c => c.before args0 about1) = true
  refine all_split ?_ w_codes
  rw [← List.take_append_drop 24 words1, List.all_append, w_t1, ← List.take_append_drop 24 (words1.drop 24), List.all_append, w_t2, w_t3]
  rfl
set_option maxRecDepth 65536 in
theorem w_case : (Jvm.Cond.and given_1 narrow_1).before args0 about1 = true := by decide +kernel
theorem w_applies : (headSpec (Jvm.Cond.code x code maxLocals ret :: tables_1) room_1).applies x e0.platform about1 = true :=
  (Spec.applies_iff w_frames).mpr ⟨w_running, w_runnable, w_alone, w_named, w_hears, w_ripe, w_room, w_tables⟩
theorem atStart : AtStart classFile x code maxLocals ret World_1 tables_1 room_1 Calls_1 rest_1 Pre_1 launch0 p0 e0 about1 theMethod args0 below0 :=
  ⟨lists_1, trivial, launch0.admits_env _ _ _, launch0.least_env, fairChoices_fair.cas, fairChoices_fair.clock, w_frames, w_args, w_heap, w_applies, trivial, trivial, w_case⟩
end start1
theorem witness_1 : WitnessClaimed_1 := ⟨start1.p0, start1.e0, start1.about1, start1.theMethod, start1.args0, start1.below0, start1.atStart⟩
end Jvm.Pilot.@@N@@
