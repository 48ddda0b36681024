import JvmDerived
import JvmDerived.Pilot.@@N@@Statement
import JvmDerived.Pilot.@@N@@Code
set_option linter.unusedVariables false
set_option linter.unusedSimpArgs false
namespace Jvm.Pilot.@@N@@
open Jvm Jvm.ClassFile Sem Op Lib Jvm.Free Jvm.Stand Jvm.LawKit Jvm.RoadKit Bundle Jvm.Pilot.@@N@@.Jvm.D
section Own
variable {p : Program} {l : Launch} {e : Env} {R : Room} {s : State} {m : MethodId} {args : Array Value} {below : List Frame} {meth : Method} {c : Code} {T : State} {locs : List Loc} {cells slots : Nat} {Z : State} {a0 : Array Value} {h : Heap} {Q : Option Value → Heap → List Loc → Prop} {C S : Nat} {u u' : State} {F : Outcome → State → List Loc → Prop}
/-- from u the invocation comes to its end, and Q holds of what it returns, of the heap and of the places written -/
def ownFin (p : Program) (e : Env) (below : List Frame) (F : Outcome → State → List Loc → Prop) (Q : Option Value → Heap → List Loc → Prop) (u : State) : Prop :=
  ∃ t o, Steps p.tables e below u t ∧ t.status = .running ∧ Ended t below o ∧ ∃ v L, o = .returned v ∧ Q v t.heap L ∧ F o t L
/-- how it ends: at most C new cells of S slots, the tables warmer, nothing old written but at the places L -/
def ownFE (s : State) (C S : Nat) : Outcome → State → List Loc → Prop := fun o t L => FrameEnd s o t L C S
theorem ownVia (f : ∀ t, Steps p.tables e below u' t → Steps p.tables e below u t) (k : ownFin p e below F Q u') : ownFin p e below F Q u := by
  obtain ⟨t, o, h1, r⟩ := k
  exact ⟨t, o, f t h1, r⟩
theorem ownRet (X : Stand p l e R s m args below meth c T locs cells slots) (hlk : meth.locks = false) {v : Option Value} (hv : meth.sig.returnType = none → v = none)
    (f : ∀ fs, (∀ (f : JFrame) (acts : List Action), f.method = m → f.locked = none → f.entered = [] → (doReturn e (T.setTop f) acts v).1 = T.setFrames fs) → Steps p.tables e below u (T.setFrames fs))
    (hC : cells ≤ C) (hS : slots ≤ S) (hQ : Q v T.heap locs) : ownFin p e below (ownFE s C S) Q u := by
  obtain ⟨fs, hr, hrun, hended, hW, hsame⟩ := X.leave (v := v) hv hlk
  exact ⟨_, _, f fs hr, hrun, hended, v, _, rfl, hQ, ⟨_, rfl⟩, hW, hsame.mono hC hS⟩
theorem ownRetI (X : Stand p l e R s m args below meth c T locs cells slots) (hx : p.tables.exec = Jvm.exec) (hlk : meth.locks = false) (hret : meth.sig.returnType = some .int) {pc : Nat} {Ls : Array Slot} {z : Int32} {rest : List Value} (hd : decode c.code pc = .ok (.ireturn, 1)) (hC : cells ≤ C) (hS : slots ≤ S) (hQ : Q (some (.int z)) T.heap locs) : ownFin p e below (ownFE s C S) Q (T.setTop (mkF m pc Ls (.int z :: rest))) :=
  ownRet X hlk (v := some (.int z)) (fun q => by rw [hret] at q; cases q) (fun fs hr => retOut X hx hret rfl (Or.inl ⟨rfl, Or.inl rfl, z, rfl⟩) hd hr) hC hS hQ
theorem ownRetZ (X : Stand p l e R s m args below meth c T locs cells slots) (hx : p.tables.exec = Jvm.exec) (hlk : meth.locks = false) (hret : meth.sig.returnType = some .boolean) {pc : Nat} {Ls : Array Slot} {z : Int32} {rest : List Value} (hd : decode c.code pc = .ok (.ireturn, 1)) (hC : cells ≤ C) (hS : slots ≤ S) (hz : z = 0 ∨ z = 1) (hQ : Q (some (.int z)) T.heap locs) : ownFin p e below (ownFE s C S) Q (T.setTop (mkF m pc Ls (.int z :: rest))) :=
  ownRet X hlk (v := some (.int z)) (fun q => by rw [hret] at q; cases q) (fun fs hr => retOut X hx hret (by rcases hz with rfl | rfl <;> rfl) (Or.inl ⟨rfl, Or.inr (Or.inl rfl), z, rfl⟩) hd hr) hC hS hQ
theorem ownRetJ (X : Stand p l e R s m args below meth c T locs cells slots) (hx : p.tables.exec = Jvm.exec) (hlk : meth.locks = false) (hret : meth.sig.returnType = some .long) {pc : Nat} {Ls : Array Slot} {z : Int64} {rest : List Value} (hd : decode c.code pc = .ok (.lreturn, 1)) (hC : cells ≤ C) (hS : slots ≤ S) (hQ : Q (some (.long z)) T.heap locs) : ownFin p e below (ownFE s C S) Q (T.setTop (mkF m pc Ls (.long z :: rest))) :=
  ownRet X hlk (v := some (.long z)) (fun q => by rw [hret] at q; cases q) (fun fs hr => retOut X hx hret rfl (Or.inr (Or.inl ⟨rfl, rfl, z, rfl⟩)) hd hr) hC hS hQ
theorem ownRetA (X : Stand p l e R s m args below meth c T locs cells slots) (hx : p.tables.exec = Jvm.exec) (hlk : meth.locks = false) {ty : FieldType} (hret : meth.sig.returnType = some ty) (hty : ty.isReference = true) {pc : Nat} {Ls : Array Slot} {a : Addr} {rest : List Value} (hd : decode c.code pc = .ok (.areturn, 1)) (hC : cells ≤ C) (hS : slots ≤ S) (hQ : Q (some (.ref a)) T.heap locs) : ownFin p e below (ownFE s C S) Q (T.setTop (mkF m pc Ls (.ref a :: rest))) :=
  ownRet X hlk (v := some (.ref a)) (fun q => by rw [hret] at q; cases q) (fun fs hr => retOut X hx hret (by cases ty <;> first | rfl | cases hty) (Or.inr (Or.inr (Or.inr (Or.inr ⟨rfl, hty, rfl⟩)))) hd hr) hC hS hQ
theorem ownRetV (X : Stand p l e R s m args below meth c T locs cells slots) (hx : p.tables.exec = Jvm.exec) (hlk : meth.locks = false) (hret : meth.sig.returnType = none) {pc : Nat} {Ls : Array Slot} (hd : decode c.code pc = .ok (.return_, 1)) (hC : cells ≤ C) (hS : slots ≤ S) (hQ : Q none T.heap locs) : ownFin p e below (ownFE s C S) Q (T.setTop (mkF m pc Ls [])) :=
  ownRet X hlk (v := none) (fun _ => rfl) (fun fs hr => X.returnOut hx hret hd hr) hC hS hQ
/-- the contract of a method at given arguments and a given heap -/
abbrev ownMet (l : Launch) (Z : State) (y : MethodName) (bytes : ByteArray) (maxL : Nat) (ret : Option FieldType) (ws : List Jvm.Cond) (rm : Room) (as' : Array Value) (h0 : Heap) (Q : Option Value → Heap → List Loc → Prop) : Prop :=
  MetFree l y (head1 (Jvm.Cond.code y bytes maxL ret :: ws) rm) (fun a U => a = as' ∧ Z.Warmed39 U.vm ∧ U.heap = h0) (fun _ _ _ _ _ => True) (fun _ U o U' => ∃ v L, o = .returned v ∧ Q v U'.heap L ∧ FrameEnd U o U' L rm.cells rm.slots)
theorem ownBody {y : MethodName} {bytes : ByteArray} {maxL : Nat} {ret : Option FieldType} {ws : List Jvm.Cond} {rm : Room} {as' : Array Value} {h0 : Heap} (hpl : plainFor y = true)
    (H : ∀ (p : Program) (e : Env) (s : State) (m : MethodId) (below : List Frame) (meth : Method) (c : Code) (T : State), p.tables.exec = Jvm.exec → c.code = bytes → c.maxLocals = maxL → meth.sig.returnType = ret → meth.locks = false → Z.Warmed39 s.vm → s.vm.findClass y.cls = some m.cls → meth.name = y.name →
      Stand p l e rm s m as' below meth c T [] 0 0 → T.heap = h0 → ownFin p e below (ownFE s rm.cells rm.slots) Q (T.setTop (entryFrame m as' maxL))) : ownMet l Z y bytes maxL ret ws rm as' h0 Q := by
  refine MetFree.of_bodySF hpl hisR ?_
  intro p e s m args below meth c s₁ Bd hml0 hP hK
  obtain ⟨rfl, hZ, hh⟩ := hP
  exact H p e s m below meth c s₁ Bd.exec Bd.bytes hml0 Bd.returns Bd.notSynchronized hZ (findClass_of_methodNamed Bd.named) (name_of_methodNamed Bd.named Bd.method).1 (Stand.of_body Bd) (by rw [← hh, Bd.state]; rfl)
theorem ownCallS {own : String} {index : Nat} {y : MethodName} {bytes : ByteArray} {maxL : Nat} {ret : Option FieldType} {rm : Room} {as' : Array Value} {Q' : Option Value → Heap → List Loc → Prop}
    (X : Stand p l e R s m args below meth c T locs cells slots) (hx : p.tables.exec = Jvm.exec) (hZ : Z.Warmed39 s.vm) (hown : s.vm.findClass own = some m.cls)
    (w1 : (Jvm.Cond.methodLink own index y).before a0 Z = true) (w2 : (Jvm.Cond.static y).before a0 Z = true) (w3 : (Jvm.Cond.initialized y.cls).before a0 Z = true) (w4 : (Jvm.Cond.code y bytes maxL ret).before a0 Z = true)
    (hy : y.cls ≠ "java/lang/invoke/MethodHandle" ∧ y.cls ≠ "java/lang/invoke/VarHandle") (eT : T.heap = h) (hM : ownMet l Z y bytes maxL ret [] rm as' h Q')
    {pc : Nat} {Ls : Array Slot} {st : List Value} (hsz : Ls.size = c.maxLocals) (argsL rest : List Value) (hlen : ∀ sig, parseMethodDescriptor y.desc = some sig → argsL.length = sig.parameters.length)
    (hst : st = argsL.reverse ++ rest) (has : argsL.toArray = as') (W : Nat) (hW : (rest.map fun v => v.category).sum = W) (hd : decode c.code pc = .ok (.invokestatic index, 3))
    (hfr : rm.frames + 1 ≤ R.frames) (hlo : W + (maxL + 11) + rm.locals ≤ R.locals) (hce : cells + rm.cells ≤ R.cells) (hsl : slots + rm.slots ≤ R.slots)
    (K : ∀ v T' L', Stand p l e R s m args below meth c T' (locs ++ L') (cells + rm.cells) (slots + rm.slots) → Q' v T'.heap L' → ownFin p e below F Q (T'.setTop (mkF m (pc + 3) Ls (v.toList ++ rest)))) :
    ownFin p e below F Q (T.setTop (mkF m pc Ls st)) := by
  obtain ⟨v, _, ⟨T2, L2, k2, n2⟩, -, X2, ⟨Lc2, hQ2, l2, y2, z2⟩, st2⟩ := Jvm.LawKit.callS X hx (y := y) hown (mvT hZ w1) (mvT hZ w2) (mvT hZ w3) (mvT hZ w4) hy (backOf (W := W) hM hZ w4 w3 hfr hlo) (g := mkF m pc Ls st) rfl hsz (argsL := argsL) (rest := rest) hlen hst (by show 2 * 0 + _ ≤ _; omega) hd (fun _ _ => ⟨has, eT, hce, hsl⟩)
  dsimp only [Pt.U, Pt.locs, Pt.cells, Pt.slots] at X2 l2 y2 z2 st2 hQ2
  subst l2 y2 z2
  exact ownVia st2 (K v T2 Lc2 X2 hQ2)
theorem ownCallN {own : String} {index : Nat} {y : MethodName} {bytes : ByteArray} {maxL : Nat} {rm : Room} {as' : Array Value} {Q' : Option Value → Heap → List Loc → Prop}
    (X : Stand p l e R s m args below meth c T locs cells slots) (hx : p.tables.exec = Jvm.exec) (hZ : Z.Warmed39 s.vm) (hown : s.vm.findClass own = some m.cls) (hy1 : y.name = "<init>")
    (w1 : (Jvm.Cond.methodLink own index y).before a0 Z = true) (w2 : (Jvm.Cond.instanceMethod y).before a0 Z = true) (w3 : (Jvm.Cond.initialized y.cls).before a0 Z = true) (w4 : (Jvm.Cond.code y bytes maxL none).before a0 Z = true)
    (hy : y.cls ≠ "java/lang/invoke/MethodHandle" ∧ y.cls ≠ "java/lang/invoke/VarHandle") (eT : T.heap = h) (hM : ownMet l Z y bytes maxL none [] rm as' h Q')
    {pc : Nat} {Ls : Array Slot} {st : List Value} (hsz : Ls.size = c.maxLocals) (a : Addr) (argsL rest : List Value) (hlen : ∀ sig, parseMethodDescriptor y.desc = some sig → argsL.length = sig.parameters.length)
    (hst : st = argsL.reverse ++ .ref a :: rest) (has : (Value.ref a :: argsL).toArray = as') (W : Nat) (hW : (rest.map fun v => v.category).sum = W) (hd : decode c.code pc = .ok (.invokespecial index, 3))
    (hfr : rm.frames + 1 ≤ R.frames) (hlo : W + (maxL + 11) + rm.locals ≤ R.locals) (hce : cells + rm.cells ≤ R.cells) (hsl : slots + rm.slots ≤ R.slots)
    (K : ∀ v T' L', Stand p l e R s m args below meth c T' (locs ++ L') (cells + rm.cells) (slots + rm.slots) → Q' v T'.heap L' → ownFin p e below F Q (T'.setTop (mkF m (pc + 3) Ls (v.toList ++ rest)))) :
    ownFin p e below F Q (T.setTop (mkF m pc Ls st)) := by
  obtain ⟨v, _, ⟨T2, L2, k2, n2⟩, -, X2, ⟨Lc2, hQ2, l2, y2, z2⟩, st2⟩ := X.specialBack hx (y := y) hy1 hown (mvT hZ w1) (mvT hZ w2) (mvT hZ w4) hy (backOf (W := W) hM hZ w4 w3 hfr hlo) (g := mkF m pc Ls st) rfl hsz (Steps.refl _) (a := a) (argsL := argsL) (rest := rest) hlen hst (by show 2 * 0 + _ ≤ _; omega) hd (fun _ _ => ⟨has, eT, hce, hsl⟩)
  dsimp only [Pt.U, Pt.locs, Pt.cells, Pt.slots] at X2 l2 y2 z2 st2 hQ2
  subst l2 y2 z2
  exact ownVia (fun _ k => st2.trans k) (K v T2 Lc2 X2 hQ2)
theorem ownCallV {own C' : String} {index : Nat} {y z : MethodName} {bytes : ByteArray} {maxL : Nat} {ret : Option FieldType} {rm : Room} {as' : Array Value} {Q' : Option Value → Heap → List Loc → Prop}
    (X : Stand p l e R s m args below meth c T locs cells slots) (hx : p.tables.exec = Jvm.exec) (hZ : Z.Warmed39 s.vm) (hown : s.vm.findClass own = some m.cls)
    (w1 : (Jvm.Cond.methodLink own index y).before a0 Z = true) (w2 : (Jvm.Cond.declares y).before a0 Z = true) (w5 : (Jvm.Cond.selects y.cls y y).before a0 Z = true) (w6 : (Jvm.Cond.selects C' y z).before a0 Z = true) (w7 : (Jvm.Cond.instanceMethod z).before a0 Z = true) (w3 : (Jvm.Cond.initialized z.cls).before a0 Z = true) (w4 : (Jvm.Cond.code z bytes maxL ret).before a0 Z = true)
    (hy : y.cls ≠ "java/lang/invoke/MethodHandle" ∧ y.cls ≠ "java/lang/invoke/VarHandle") (eT : T.heap = h) {a : Addr} (E : Exa Z h a C') (hM : ownMet l Z z bytes maxL ret [] rm as' h Q')
    {pc : Nat} {Ls : Array Slot} {st : List Value} (hsz : Ls.size = c.maxLocals) (argsL rest : List Value) (hlen : ∀ sig, parseMethodDescriptor y.desc = some sig → argsL.length = sig.parameters.length)
    (hst : st = argsL.reverse ++ .ref a :: rest) (has : (Value.ref a :: argsL).toArray = as') (W : Nat) (hW : (rest.map fun v => v.category).sum = W) (hd : decode c.code pc = .ok (.invokevirtual index, 3))
    (hfr : rm.frames + 1 ≤ R.frames) (hlo : W + (maxL + 11) + rm.locals ≤ R.locals) (hce : cells + rm.cells ≤ R.cells) (hsl : slots + rm.slots ≤ R.slots)
    (K : ∀ v T' L', Stand p l e R s m args below meth c T' (locs ++ L') (cells + rm.cells) (slots + rm.slots) → Q' v T'.heap L' → ownFin p e below F Q (T'.setTop (mkF m (pc + 3) Ls (v.toList ++ rest)))) :
    ownFin p e below F Q (T.setTop (mkF m pc Ls st)) := by
  obtain ⟨cq, kq, qa, qb, qc⟩ := isOf hZ eT E
  obtain ⟨v, _, ⟨T2, L2, k2, n2⟩, -, X2, ⟨Lc2, hQ2, l2, y2, z2⟩, st2⟩ := X.virtualBack hx (y := y) (z := z) hown (mvT hZ w1) (mvT hZ w2) (notFace_of_selects (args := #[]) (mvT hZ w5)) (mvT hZ w6) (mvT hZ w7) hy (backOf (W := W) hM hZ w4 w3 hfr hlo) qa qc (g := mkF m pc Ls st) rfl hsz (Steps.refl _) (argsL := argsL) (rest := rest) hlen hst (by show 2 * 0 + _ ≤ _; omega) hd (fun _ _ => ⟨has, eT, hce, hsl⟩)
  dsimp only [Pt.U, Pt.locs, Pt.cells, Pt.slots] at X2 l2 y2 z2 st2 hQ2
  subst l2 y2 z2
  exact ownVia (fun _ k => st2.trans k) (K v T2 Lc2 X2 hQ2)
theorem ownLen {a : Addr} {k : ClassId} {ty : FieldType} {z : Int32} {vs : List Value} {dv : Value} (X : Stand p l e R s m args below meth c T locs cells slots) (hx : p.tables.exec = Jvm.exec) (hZ : Z.Warmed39 s.vm) (eT : T.heap = h) (A : Arv Z h a k ty z vs dv) {pc : Nat} {Ls : Array Slot} {rest : List Value} (hd : decode c.code pc = .ok (.arraylength, 1))
    (K : ownFin p e below F Q (T.setTop (mkF m (pc + 1) Ls (.int z :: rest)))) : ownFin p e below F Q (T.setTop (mkF m pc Ls (.ref a :: rest))) := by
  obtain ⟨cl, Ar, -, Sz, Nz, -, -⟩ := A
  rw [← len_of Sz Nz] at K
  exact ownVia (fun t k => X.arraylength hx (by rw [eT]; exact Ar.1) (State.isArrayOf_alike hZ.alike Ar.2.1) (g := mkF m pc Ls (.ref a :: rest)) rfl rfl hd t k) K
theorem ownBaload {a : Addr} {k : ClassId} {z j : Int32} {vs : List Value} {dv v : Value} (X : Stand p l e R s m args below meth c T locs cells slots) (hx : p.tables.exec = Jvm.exec) (hZ : Z.Warmed39 s.vm) (eT : T.heap = h) (A : Arv Z h a k .byte z vs dv) (hj : ¬ j < 0 ∧ j < z) (hv : vs.getD j.toNatClampNeg dv = v) {pc : Nat} {Ls : Array Slot} {rest : List Value} (hd : decode c.code pc = .ok (.baload, 1))
    (K : ownFin p e below F Q (T.setTop (mkF m (pc + 1) Ls (v :: rest)))) : ownFin p e below F Q (T.setTop (mkF m pc Ls (.int j :: .ref a :: rest))) := by
  obtain ⟨cl, Ar, -, Sz, Nz, H, -⟩ := A
  have hin := inb_of Sz hj
  exact ownVia (fun t k => X.baloadBytes hx (by rw [eT]; exact Ar.1) (State.isArrayOf_alike hZ.alike Ar.2.1) Ar.2.2 hin (H.at hin hv) (g := mkF m pc Ls (.int j :: .ref a :: rest)) rfl rfl hd t k) K
theorem ownIaload {a : Addr} {k : ClassId} {z j : Int32} {vs : List Value} {dv v : Value} (X : Stand p l e R s m args below meth c T locs cells slots) (hx : p.tables.exec = Jvm.exec) (hZ : Z.Warmed39 s.vm) (eT : T.heap = h) (A : Arv Z h a k .int z vs dv) (hj : ¬ j < 0 ∧ j < z) (hv : vs.getD j.toNatClampNeg dv = v) {pc : Nat} {Ls : Array Slot} {rest : List Value} (hd : decode c.code pc = .ok (.iaload, 1))
    (K : ownFin p e below F Q (T.setTop (mkF m (pc + 1) Ls (v :: rest)))) : ownFin p e below F Q (T.setTop (mkF m pc Ls (.int j :: .ref a :: rest))) := by
  obtain ⟨cl, Ar, -, Sz, Nz, H, -⟩ := A
  have hin := inb_of Sz hj
  exact ownVia (fun t k => X.iaload hx (by rw [eT]; exact Ar.1) (State.isArrayOf_alike hZ.alike Ar.2.1) Ar.2.2 hin (H.at hin hv) (g := mkF m pc Ls (.int j :: .ref a :: rest)) rfl rfl hd t k) K
theorem ownLaload {a : Addr} {k : ClassId} {z j : Int32} {vs : List Value} {dv v : Value} (X : Stand p l e R s m args below meth c T locs cells slots) (hx : p.tables.exec = Jvm.exec) (hZ : Z.Warmed39 s.vm) (eT : T.heap = h) (A : Arv Z h a k .long z vs dv) (hj : ¬ j < 0 ∧ j < z) (hv : vs.getD j.toNatClampNeg dv = v) {pc : Nat} {Ls : Array Slot} {rest : List Value} (hd : decode c.code pc = .ok (.laload, 1))
    (K : ownFin p e below F Q (T.setTop (mkF m (pc + 1) Ls (v :: rest)))) : ownFin p e below F Q (T.setTop (mkF m pc Ls (.int j :: .ref a :: rest))) := by
  obtain ⟨cl, Ar, -, Sz, Nz, H, -⟩ := A
  have hin := inb_of Sz hj
  exact ownVia (fun t k => X.laload hx (by rw [eT]; exact Ar.1) (State.isArrayOf_alike hZ.alike Ar.2.1) Ar.2.2 hin (H.at hin hv) (g := mkF m pc Ls (.int j :: .ref a :: rest)) rfl rfl hd t k) K
theorem ownBastore {a : Addr} {k : ClassId} {z j x : Int32} {vs : List Value} {dv : Value} {n0 : Nat} (X : Stand p l e R s m args below meth c T locs cells slots) (hx : p.tables.exec = Jvm.exec) (hZ : Z.Warmed39 s.vm) (eT : T.heap = h) (A : Arv Z h a k .byte z vs dv) (hj : ¬ j < 0 ∧ j < z) (i : Nat) (hi : j.toNatClampNeg = i) (hl : i < vs.length) (N : Fr n0 locs) (ge : n0 ≤ a) {pc : Nat} {Ls : Array Slot} {rest : List Value} (hd : decode c.code pc = .ok (.bastore, 1))
    (K : ∀ T' h' L', Stand p l e R s m args below meth c T' L' cells slots → T'.heap = h' → Fr n0 L' → Wr h h' a i (.int (nar .byte x)) → Arv Z h' a k .byte z (vs.set i (.int (nar .byte x))) dv → ownFin p e below F Q (T'.setTop (mkF m (pc + 1) Ls rest))) :
    ownFin p e below F Q (T.setTop (mkF m pc Ls (.int x :: .int j :: .ref a :: rest))) := by
  obtain ⟨cl, Ar, q1, Sz, Nz, H, G⟩ := A
  obtain ⟨T', h', X', e', W, st⟩ := stB X hx hZ eT Ar (j := j) (x := x) (inb_of Sz hj) (g := mkF m pc Ls (.int x :: .int j :: .ref a :: rest)) rfl rfl hd
  have N' := Fr.snoc X' N ge
  have A' := Arv.set Ar q1 Sz Nz H G (fits_nar_byte x) W i hi hl
  rw [hi] at W
  exact ownVia st (K T' h' _ X' e' N' W A')
theorem ownIastore {a : Addr} {k : ClassId} {z j x : Int32} {vs : List Value} {dv : Value} {n0 : Nat} (X : Stand p l e R s m args below meth c T locs cells slots) (hx : p.tables.exec = Jvm.exec) (hZ : Z.Warmed39 s.vm) (eT : T.heap = h) (A : Arv Z h a k .int z vs dv) (hj : ¬ j < 0 ∧ j < z) (i : Nat) (hi : j.toNatClampNeg = i) (hl : i < vs.length) (N : Fr n0 locs) (ge : n0 ≤ a) {pc : Nat} {Ls : Array Slot} {rest : List Value} (hd : decode c.code pc = .ok (.iastore, 1))
    (K : ∀ T' h' L', Stand p l e R s m args below meth c T' L' cells slots → T'.heap = h' → Fr n0 L' → Wr h h' a i (.int x) → Arv Z h' a k .int z (vs.set i (.int x)) dv → ownFin p e below F Q (T'.setTop (mkF m (pc + 1) Ls rest))) :
    ownFin p e below F Q (T.setTop (mkF m pc Ls (.int x :: .int j :: .ref a :: rest))) := by
  obtain ⟨cl, Ar, q1, Sz, Nz, H, G⟩ := A
  obtain ⟨T', h', X', e', W, st⟩ := stI X hx hZ eT Ar (j := j) (x := x) (inb_of Sz hj) (g := mkF m pc Ls (.int x :: .int j :: .ref a :: rest)) rfl rfl hd
  have N' := Fr.snoc X' N ge
  have A' := Arv.set Ar q1 Sz Nz H G rfl W i hi hl
  rw [hi] at W
  exact ownVia st (K T' h' _ X' e' N' W A')
theorem ownLastore {a : Addr} {k : ClassId} {z j : Int32} {x : Int64} {vs : List Value} {dv : Value} {n0 : Nat} (X : Stand p l e R s m args below meth c T locs cells slots) (hx : p.tables.exec = Jvm.exec) (hZ : Z.Warmed39 s.vm) (eT : T.heap = h) (A : Arv Z h a k .long z vs dv) (hj : ¬ j < 0 ∧ j < z) (i : Nat) (hi : j.toNatClampNeg = i) (hl : i < vs.length) (N : Fr n0 locs) (ge : n0 ≤ a) {pc : Nat} {Ls : Array Slot} {rest : List Value} (hd : decode c.code pc = .ok (.lastore, 1))
    (K : ∀ T' h' L', Stand p l e R s m args below meth c T' L' cells slots → T'.heap = h' → Fr n0 L' → Wr h h' a i (.long x) → Arv Z h' a k .long z (vs.set i (.long x)) dv → ownFin p e below F Q (T'.setTop (mkF m (pc + 1) Ls rest))) :
    ownFin p e below F Q (T.setTop (mkF m pc Ls (.long x :: .int j :: .ref a :: rest))) := by
  obtain ⟨cl, Ar, q1, Sz, Nz, H, G⟩ := A
  obtain ⟨T', h', X', e', W, st⟩ := stJ X hx hZ eT Ar (j := j) (x := x) (inb_of Sz hj) (g := mkF m pc Ls (.long x :: .int j :: .ref a :: rest)) rfl rfl hd
  have N' := Fr.snoc X' N ge
  have A' := Arv.set Ar q1 Sz Nz H G rfl W i hi hl
  rw [hi] at W
  exact ownVia st (K T' h' _ X' e' N' W A')
theorem ownNewP {aty : ArrayType} {n : Int32} (X : Stand p l e R s m args below meth c T locs cells slots) (hx : p.tables.exec = Jvm.exec) (hZ : Z.Warmed39 s.vm) (w : (Jvm.Cond.arrayClass (newarray.typeOf aty)).before a0 Z = true) (eT : T.heap = h) (ad : String) (had : "[" ++ (newarray.typeOf aty).toString = ad) (hn : ¬ n < 0) (N : Nat) (hN : n.toNatClampNeg = N) (cap : Nat) (hcap : N ≤ cap) (hb : cap * 8 ≤ 536870912) (hc : cells + 1 ≤ R.cells) (hl : slots + cap ≤ R.slots)
    {pc : Nat} {Ls : Array Slot} {rest : List Value} (hd : decode c.code pc = .ok (.newarray aty, 2))
    (K : ∀ T' h' k a, a = h.size → Stand p l e R s m args below meth c T' locs (cells + 1) (slots + cap) → T'.heap = h' → Ext h h' → Arv Z h' a k (newarray.typeOf aty) n (List.replicate N (defaultValue (newarray.typeOf aty))) (defaultValue (newarray.typeOf aty)) → Exa Z h' a ad → ownFin p e below F Q (T'.setTop (mkF m (pc + 2) Ls (.ref a :: rest)))) :
    ownFin p e below F Q (T.setTop (mkF m pc Ls (.int n :: rest))) := by
  obtain ⟨T', h', k, X', e', E, A, Ex, st⟩ := newPE X hx hZ w eT (g := mkF m pc Ls (.int n :: rest)) rfl hd rfl hn (cap := cap) (by rw [hN]; exact hcap) hb hc hl had
  exact ownVia st (K T' h' k _ rfl X' e' E ((Arv.new A hn).pad (pad_rep [] _ _)) Ex)
theorem ownClone {own : String} {index : Nat} {a : Addr} {k : ClassId} {ty : FieldType} {z : Int32} {vs : List Value} {dv : Value} {ad : String} (X : Stand p l e R s m args below meth c T locs cells slots) (hx : p.tables.exec = Jvm.exec) (hZ : Z.Warmed39 s.vm) (hown : s.vm.findClass own = some m.cls)
    (w1 : (Jvm.Cond.methodLink own index ⟨ad, "clone", "()Ljava/lang/Object;"⟩).before a0 Z = true) (w2 : (Jvm.Cond.sameMethod ad "java/lang/Object" "clone" "()Ljava/lang/Object;").before a0 Z = true) (w3 : (Jvm.Cond.native ⟨"java/lang/Object", "clone", "()Ljava/lang/Object;"⟩).before a0 Z = true)
    (w4 : (Jvm.Cond.instanceMethod ⟨"java/lang/Object", "clone", "()Ljava/lang/Object;"⟩).before a0 Z = true) (w5 : (Jvm.Cond.selects ad ⟨ad, "clone", "()Ljava/lang/Object;"⟩ ⟨"java/lang/Object", "clone", "()Ljava/lang/Object;"⟩).before a0 Z = true) (w6 : (Jvm.Cond.castable ad "java/lang/Cloneable").before a0 Z = true)
    (eT : T.heap = h) (A : Arv Z h a k ty z vs dv) (E : Exa Z h a ad) {pc : Nat} {Ls : Array Slot} {rest : List Value} (hsz : Ls.size = c.maxLocals) (hd : decode c.code pc = .ok (.invokevirtual index, 3)) (hf : 1 ≤ R.frames) (W : Nat) (hW : (rest.map fun v => v.category).sum = W) (hlo : W + 14 ≤ R.locals) (cap : Nat) (hcap : z.toNatClampNeg ≤ cap) (hc : cells + 1 ≤ R.cells) (hsl : slots + cap ≤ R.slots)
    (K : ∀ T' h' b, b = h.size → Stand p l e R s m args below meth c T' locs (cells + 1) (slots + cap) → T'.heap = h' → Ext h h' → Arv Z h' b k ty z vs dv → Exa Z h' b ad → ownFin p e below F Q (T'.setTop (mkF m (pc + 3) Ls (.ref b :: rest)))) :
    ownFin p e below F Q (T.setTop (mkF m pc Ls (.ref a :: rest))) := by
  obtain ⟨T', h', X', e', Ex, A', E', st⟩ := cloneH X hx hZ hown w1 w2 w3 w4 w5 w6 eT A.arh E (g := mkF m pc Ls (.ref a :: rest)) rfl hsz rfl hd hf (W := W) (by show 2 * 0 + _ ≤ _; omega) hlo hcap hc hsl
  exact ownVia st (K T' h' _ rfl X' e' Ex A' E')
theorem ownCallP {own : String} {index : Nat} {y y2 : MethodName} {bytes : ByteArray} {maxL : Nat} {ret : Option FieldType} {rm : Room} {as' : Array Value} {Q' : Option Value → Heap → List Loc → Prop} {C' : String}
    (X : Stand p l e R s m args below meth c T locs cells slots) (hx : p.tables.exec = Jvm.exec) (hZ : Z.Warmed39 s.vm) (hown : s.vm.findClass own = some m.cls)
    (w1 : (Jvm.Cond.methodLink own index y).before a0 Z = true) (w2 : (Jvm.Cond.privateMethod y).before a0 Z = true) (w5 : (Jvm.Cond.selects y2.cls y2 y2).before a0 Z = true) (hc2 : y2.cls = y.cls) (w7 : (Jvm.Cond.instanceMethod y).before a0 Z = true) (w3 : (Jvm.Cond.initialized y.cls).before a0 Z = true) (w4 : (Jvm.Cond.code y bytes maxL ret).before a0 Z = true)
    (hy : y.cls ≠ "java/lang/invoke/MethodHandle" ∧ y.cls ≠ "java/lang/invoke/VarHandle") (eT : T.heap = h) {a : Addr} (E : Exa Z h a C') (hM : ownMet l Z y bytes maxL ret [] rm as' h Q')
    {pc : Nat} {Ls : Array Slot} {st : List Value} (hsz : Ls.size = c.maxLocals) (argsL rest : List Value) (hlen : ∀ sig, parseMethodDescriptor y.desc = some sig → argsL.length = sig.parameters.length)
    (hst : st = argsL.reverse ++ .ref a :: rest) (has : (Value.ref a :: argsL).toArray = as') (W : Nat) (hW : (rest.map fun v => v.category).sum = W) (hd : decode c.code pc = .ok (.invokevirtual index, 3))
    (hfr : rm.frames + 1 ≤ R.frames) (hlo : W + (maxL + 11) + rm.locals ≤ R.locals) (hce : cells + rm.cells ≤ R.cells) (hsl : slots + rm.slots ≤ R.slots)
    (K : ∀ v T' L', Stand p l e R s m args below meth c T' (locs ++ L') (cells + rm.cells) (slots + rm.slots) → Q' v T'.heap L' → ownFin p e below F Q (T'.setTop (mkF m (pc + 3) Ls (v.toList ++ rest)))) :
    ownFin p e below F Q (T.setTop (mkF m pc Ls st)) := by
  have hpriv : s.PrivateAt y := Cond.privateMethod_at (mvP hZ w2 (args := #[]))
  have hsel2 : (Jvm.Cond.selects y2.cls y2 y2).before args s = true := mvT hZ w5
  obtain ⟨c2, r2, m2, q1, q2, q3, q4, kP, hkP, hkPi⟩ := Cond.selects_spec hsel2
  have hf2 := findClass_of_methodNamed q3
  rw [hc2] at hf2
  have hsel : (Jvm.Cond.selects y.cls y y).before args s = true := selects_self_of_private hf2 hkP hkPi hpriv (mvT hZ w7) hy
  obtain ⟨cq, qc1, qc2⟩ := E.cell
  obtain ⟨v, _, ⟨T2, L2, k2, n2⟩, -, X2, ⟨Lc2, hQ2, l2, y2', z2⟩, st2⟩ := X.privateBack hx (y := y) hown (mvT hZ w1) (mvT hZ w7) hsel hpriv (mvT hZ w4) hy (backOf (W := W) hM hZ w4 w3 hfr hlo) (g := mkF m pc Ls st) rfl hsz (Steps.refl _) (a := a) (by rw [eT]; exact qc1) qc2 (argsL := argsL) (rest := rest) hlen hst (by show 2 * 0 + _ ≤ _; omega) hd (fun _ _ => ⟨has, eT, hce, hsl⟩)
  dsimp only [Pt.U, Pt.locs, Pt.cells, Pt.slots] at X2 l2 y2' z2 st2 hQ2
  subst l2 y2' z2
  exact ownVia (fun _ k => st2.trans k) (K v T2 Lc2 X2 hQ2)
theorem ownCast {own K' : String} {index : Nat} {a : Addr} (X : Stand p l e R s m args below meth c T locs cells slots) (hx : p.tables.exec = Jvm.exec) (hZ : Z.Warmed39 s.vm) (hown : s.vm.findClass own = some m.cls) (w : (Jvm.Cond.classLink own index K').before a0 Z = true) (eT : T.heap = h) (FI : Ins Z h a K' true) {pc : Nat} {Ls : Array Slot} {rest : List Value} (hd : decode c.code pc = .ok (.checkcast index, 3))
    (K : ∀ T', Stand p l e R s m args below meth c T' locs cells slots → T'.heap = h → ownFin p e below F Q (T'.setTop (mkF m (pc + 3) Ls (.ref a :: rest)))) : ownFin p e below F Q (T.setTop (mkF m pc Ls (.ref a :: rest))) := by
  obtain ⟨T', X', e', st⟩ := castY X hx hZ hown w eT FI (g := mkF m pc Ls (.ref a :: rest)) rfl rfl hd
  exact ownVia st (K T' X' e')
theorem own_clamp {j : Int32} {n : Nat} (h : j.toInt = (n : Int)) : j.toNatClampNeg = n := by
  show j.toInt.toNat = n
  rw [h]; rfl
theorem own_nneg {j : Int32} {n : Nat} (h : j.toInt = (n : Int)) : ¬ j < 0 := fun q => by
  have := Int32.lt_iff_toInt_lt.mp q
  have k0 : (0 : Int32).toInt = 0 := by decide
  omega
theorem ownCopy {own : String} {index : Nat} {a b : Addr} {k k' : ClassId} {ty : FieldType} {z z' sp dp nn : Int32} {vs vd : List Value} {dv dd : Value} {n0 : Nat} (X : Stand p l e R s m args below meth c T locs cells slots) (hx : p.tables.exec = Jvm.exec) (hZ : Z.Warmed39 s.vm) (hown : s.vm.findClass own = some m.cls)
    (w1 : (Jvm.Cond.methodLink own index Jvm.Stand.acN).before a0 Z = true) (w2 : (Jvm.Cond.native Jvm.Stand.acN).before a0 Z = true) (w3 : (Jvm.Cond.static Jvm.Stand.acN).before a0 Z = true) (w4 : (Jvm.Cond.initialized "java/lang/System").before a0 Z = true) (eT : T.heap = h)
    (A : Arv Z h a k ty z vs dv) (B : Arv Z h b k' ty z' vd dd) (hty : refKind ty = false) (i j n lz lz' : Nat) (hi : sp.toInt = (i : Int)) (hj : dp.toInt = (j : Int)) (hn : nn.toInt = (n : Int)) (hz : z.toInt = (lz : Int)) (hz' : z'.toInt = (lz' : Int)) (h4 : i + n ≤ lz) (h5 : j + n ≤ lz') (hl : j + n ≤ vd.length) (N : Fr n0 locs) (ge : n0 ≤ b)
    {pc : Nat} {Ls : Array Slot} {rest : List Value} (hsz : Ls.size = c.maxLocals) (hd : decode c.code pc = .ok (.invokestatic index, 3)) (hf : 1 ≤ R.frames) (W : Nat) (hW : (rest.map fun v => v.category).sum = W) (hlo : W + (nativeFrameWords "java/lang/System" "arraycopy" 5 + 11) ≤ R.locals)
    (K : ∀ T' h' L', Stand p l e R s m args below meth c T' L' cells slots → T'.heap = h' → Fr n0 L' → Keep h h' [b] → Arv Z h' b k' ty z' (vd.take j ++ ((List.range n).map fun x => vs.getD (i + x) dv) ++ vd.drop (j + n)) dd → ownFin p e below F Q (T'.setTop (mkF m (pc + 3) Ls rest))) :
    ownFin p e below F Q (T.setTop (mkF m pc Ls (.int nn :: .int dp :: .ref b :: .int sp :: .ref a :: rest))) := by
  have e1 := own_clamp hi
  have e2 := own_clamp hj
  have e3 := own_clamp hn
  have e4 := own_clamp hz
  have e5 := own_clamp hz'
  obtain ⟨T', h', L', X', e', N', K', B', st⟩ := cpA X hx hZ hown w1 w2 w3 w4 eT A B (Or.inl ⟨rfl, hty⟩) (own_nneg hi) (own_nneg hj) (own_nneg hn) (by omega) (by omega) rfl (by omega) N ge (g := mkF m pc Ls (.int nn :: .int dp :: .ref b :: .int sp :: .ref a :: rest)) rfl hsz rfl hd hf (W := W) (by show 2 * 0 + _ ≤ _; omega) hlo
  rw [e1, e2, e3] at B'
  exact ownVia st (K T' h' L' X' e' N' K' B')
theorem own_lti {a b : Int32} {x y : Int} (ha : a.toInt = x) (hb : b.toInt = y) : a < b ↔ x < y := by rw [Int32.lt_iff_toInt_lt, ha, hb]
theorem own_sub {a b : Int32} {i j : Nat} (ha : a.toInt = (i : Int)) (hb : b.toInt = (j : Int)) (h : j ≤ i) : (a - b).toInt = ((i - j : Nat) : Int) := by
  have h1 := c_isub a b
  have h2 := rng32 (a - b)
  have h3 := rng32 a
  have h4 := rng32 b
  omega
theorem own_add {a b : Int32} {i j : Nat} (ha : a.toInt = (i : Int)) (hb : b.toInt = (j : Int)) (h : i + j < 2147483648) : (a + b).toInt = ((i + j : Nat) : Int) := by
  have h1 := c_iadd a b
  have h2 := rng32 (a + b)
  omega
theorem own_nlt {a b : Int32} {i j : Int} (ha : a.toInt = i) (hb : b.toInt = j) (h : j ≤ i) : ¬ a < b := fun q => by
  have := (own_lti ha hb).mp q
  omega
theorem own_enum {args : Array Value} {C n d K : String} (hx : (Jvm.Cond.exactly (.static C n d) K).value args s none s [] = some true) (wi : (Jvm.Cond.initialized C).before args s = true) (wl : (Jvm.Cond.laysStatic C n d).before args s = true) :
    ∃ a, (Term.static C n d).eval args s none [] s = some (.ref a) ∧ Sta s s.heap C n d (.ref a) ∧ Exa s s.heap a K := by
  obtain ⟨a, ev⟩ := exa_v hx
  exact ⟨a, ev, Sta.start ev (Or.inr ⟨wi, wl⟩), Exa.start ev hx⟩
theorem own_eqv {args : Array Value} {t : Term} {k : Int32} (hf : (Jvm.Cond.eq t (.int k)).value args s none s [] = some true) : t.eval args s none [] s = some (.int k) := by
  cases hv : t.eval args s none [] s with
  | none => simp [Cond.value, hv] at hf
  | some v =>
    cases v <;> simp [Cond.value, hv, Term.eval] at hf
    rw [hf]
theorem own_efld {args : Array Value} {t : Term} {a : Addr} {C n d : String} {k : Int32} (ev : t.eval args s none [] s = some (.ref a)) (hf : (Jvm.Cond.eq (.field t C n d) (.int k)).value args s none s [] = some true) : Fld s s.heap a C n d (.int k) :=
  Fld.start ((fld_at ev).symm.trans (own_eqv hf))
theorem own_iff_f {A B P : Prop} (hA : ¬ A) (h : P ↔ A ∨ B) : P ↔ B := by simpa [hA] using h
theorem own_iff_t {A B P : Prop} (hA : A) (h : P ↔ A ∨ B) : P := h.mpr (Or.inl hA)
theorem own_ref_ne {a b : Addr} (h : a ≠ b) : ¬ (Value.ref a) = .ref b := fun q => h (by cases q; rfl)
theorem own_sz {n0 : Nat} {h' : Heap} (q : n0 ≤ h.size) (E : Ext h h') : n0 ≤ h'.size := Nat.le_trans q E.1
theorem own_szW {n0 : Nat} {h' : Heap} {a : Addr} {sl : Nat} {v : Value} (q : n0 ≤ h.size) (W : Wr h h' a sl v) : n0 ≤ h'.size := by rw [W.size]; exact q
theorem own_eqi {a b : Int32} {x y : Int} (ha : a.toInt = x) (hb : b.toInt = y) : a = b ↔ x = y := by rw [← Int32.toInt_inj, ha, hb]
theorem own_ltl {a b : Int64} {x y : Int} (ha : a.toInt = x) (hb : b.toInt = y) : a < b ↔ x < y := by rw [Int64.lt_iff_toInt_lt, ha, hb]
theorem own_eql {a b : Int64} {x y : Int} (ha : a.toInt = x) (hb : b.toInt = y) : a = b ↔ x = y := by rw [← Int64.toInt_inj, ha, hb]
theorem own_getD_map {α β : Type} (f : α → β) (d : α) (xs : List α) (n : Nat) : (xs.map f).getD n (f d) = f (xs.getD n d) := by
  simp only [List.getD_eq_getElem?_getD, List.getElem?_map]
  cases xs[n]? <;> rfl
theorem own_idx {j z : Int32} {zi : Int} (hz : z.toInt = zi) (h1 : 0 ≤ j.toInt) (h2 : j.toInt < zi) : ¬ j < 0 ∧ j < z := ⟨fun q => by have := (own_lti rfl (by decide : (0 : Int32).toInt = 0)).mp q; omega, Int32.lt_iff_toInt_lt.mpr (by rw [hz]; exact h2)⟩
end Own
def own_u (x : Int64) (k : Int32) : Int64 := ((x.toUInt64 >>> (k &&& 0x3f).toInt64.toUInt64).toInt64)
def own_y (q : Int64) (k : Int32) : Int32 := (own_u q k).toInt32.toInt8.toInt32
def own_y0 (q : Int64) : Int32 := q.toInt32.toInt8.toInt32
def own_ob (q : Int64) : Nat → List Int32
  | 1 => [nar .byte (own_y0 q)]
  | 2 => [nar .byte (own_y q 8), nar .byte (own_y0 q)]
  | 3 => [nar .byte (own_y q 16), nar .byte (own_y q 8), nar .byte (own_y0 q)]
  | 4 => [nar .byte (own_y q 24), nar .byte (own_y q 16), nar .byte (own_y q 8), nar .byte (own_y0 q)]
  | 5 => [nar .byte (own_y q 32), nar .byte (own_y q 24), nar .byte (own_y q 16), nar .byte (own_y q 8), nar .byte (own_y0 q)]
  | 6 => [nar .byte (own_y q 40), nar .byte (own_y q 32), nar .byte (own_y q 24), nar .byte (own_y q 16), nar .byte (own_y q 8), nar .byte (own_y0 q)]
  | 7 => [nar .byte (own_y q 48), nar .byte (own_y q 40), nar .byte (own_y q 32), nar .byte (own_y q 24), nar .byte (own_y q 16), nar .byte (own_y q 8), nar .byte (own_y0 q)]
  | 8 => [nar .byte (own_y q 56), nar .byte (own_y q 48), nar .byte (own_y q 40), nar .byte (own_y q 32), nar .byte (own_y q 24), nar .byte (own_y q 16), nar .byte (own_y q 8), nar .byte (own_y0 q)]
  | _ => []
def own_ns (acc : Int64) (b : Int32) : Int64 := (acc <<< ((8 : Int32) &&& 0x3f).toInt64) ||| (b &&& (255 : Int32)).toInt64
def own_num (bs : List Int32) : Int64 := bs.foldl own_ns 0
theorem own_num_succ {bs : List Int32} {i : Nat} (h : i < bs.length) : own_num (bs.take (i + 1)) = own_ns (own_num (bs.take i)) (bs.getD i 0) := by
  have e : bs.take (i + 1) = bs.take i ++ [bs.getD i 0] := by
    rw [List.take_add_one, List.getElem?_eq_getElem h, List.getD_eq_getElem?_getD, List.getElem?_eq_getElem h]
    rfl
  rw [e, own_num, List.foldl_append]
  rfl
theorem own_eq64 {x y : Int64} (h : (x.toInt - y.toInt) % 18446744073709551616 = 0) : x = y := by
  have a := rng64 x
  have b := rng64 y
  exact Int64.toInt_inj.mp (by omega)
theorem own_and1 (q : Int64) : q &&& (-1 : Int64) = q := by
  apply Int64.toBitVec_inj.mp
  rw [Int64.toBitVec_and]
  show q.toBitVec &&& (BitVec.allOnes 64) = _
  rw [BitVec.and_allOnes]
theorem own_st (a : Int64) (A : Int) (b : Int32) (hA : (a.toInt - A) % 18446744073709551616 = 0) (u : Int) (hu : (b &&& (255 : Int32)).toInt = u ∧ 0 ≤ u ∧ u < 256) : ((own_ns a b).toInt - (A * 256 + u)) % 18446744073709551616 = 0 := by
  have h1 := c_lshl a 8 8 (by decide)
  have h2 := c_i2l (b &&& (255 : Int32))
  have h3 := c_orL (a <<< ((8 : Int32) &&& 0x3f).toInt64) (b &&& (255 : Int32)).toInt64 8 (by decide) 256 (by decide) (by omega) (by omega) (by omega)
  unfold own_ns
  omega
def own_Q (q : Int64) : Nat → Int
  | 0 => q.toInt % 18446744073709551616
  | k + 1 => own_Q q k / 256
theorem own_Qd (q : Int64) (k : Nat) : own_Q q k = (q.toInt % 18446744073709551616) / (2 ^ (8 * k) : Nat) := by
  induction k with
  | zero => simp [own_Q]
  | succ k ih =>
    show own_Q q k / 256 = _
    rw [ih, Int.ediv_ediv_of_nonneg (Int.natCast_nonneg _)]
    congr 1
    have : 2 ^ (8 * (k + 1)) = 2 ^ (8 * k) * 256 := by rw [Nat.mul_add, Nat.pow_add]
    rw [this]
    rfl
theorem own_ub (y : Int32) (x : Int64) (D : Int) (hx : x.toInt = D) (hy : y = x.toInt32.toInt8.toInt32) : ((nar .byte y) &&& (255 : Int32)).toInt = D % 256 ∧ 0 ≤ D % 256 ∧ D % 256 < 256 := by
  have e : nar .byte y = y.toInt8.toInt32 := rfl
  have h1 := c_l2i x
  have h2 := c_i2b x.toInt32
  have h3 := c_i2b y
  have h4 := c_mask (nar .byte y) 255 8 (by decide) (by decide)
  rw [e] at h4 ⊢
  rw [← hy] at h2
  omega
theorem own_uy0 (q : Int64) : ((nar .byte (own_y0 q)) &&& (255 : Int32)).toInt = own_Q q 0 % 256 ∧ 0 ≤ own_Q q 0 % 256 ∧ own_Q q 0 % 256 < 256 := by
  have h := own_ub (own_y0 q) q _ rfl rfl
  have e : own_Q q 0 = q.toInt % 18446744073709551616 := rfl
  omega
theorem own_uy1 (q : Int64) : ((nar .byte (own_y q 8)) &&& (255 : Int32)).toInt = own_Q q 1 % 256 ∧ 0 ≤ own_Q q 1 % 256 ∧ own_Q q 1 % 256 < 256 :=
  own_ub (own_y q 8) (own_u q 8) _ ((c_lushr q 8 8 (by decide) (by decide)).trans (own_Qd q 1).symm) rfl
theorem own_uy2 (q : Int64) : ((nar .byte (own_y q 16)) &&& (255 : Int32)).toInt = own_Q q 2 % 256 ∧ 0 ≤ own_Q q 2 % 256 ∧ own_Q q 2 % 256 < 256 :=
  own_ub (own_y q 16) (own_u q 16) _ ((c_lushr q 16 16 (by decide) (by decide)).trans (own_Qd q 2).symm) rfl
theorem own_uy3 (q : Int64) : ((nar .byte (own_y q 24)) &&& (255 : Int32)).toInt = own_Q q 3 % 256 ∧ 0 ≤ own_Q q 3 % 256 ∧ own_Q q 3 % 256 < 256 :=
  own_ub (own_y q 24) (own_u q 24) _ ((c_lushr q 24 24 (by decide) (by decide)).trans (own_Qd q 3).symm) rfl
theorem own_uy4 (q : Int64) : ((nar .byte (own_y q 32)) &&& (255 : Int32)).toInt = own_Q q 4 % 256 ∧ 0 ≤ own_Q q 4 % 256 ∧ own_Q q 4 % 256 < 256 :=
  own_ub (own_y q 32) (own_u q 32) _ ((c_lushr q 32 32 (by decide) (by decide)).trans (own_Qd q 4).symm) rfl
theorem own_uy5 (q : Int64) : ((nar .byte (own_y q 40)) &&& (255 : Int32)).toInt = own_Q q 5 % 256 ∧ 0 ≤ own_Q q 5 % 256 ∧ own_Q q 5 % 256 < 256 :=
  own_ub (own_y q 40) (own_u q 40) _ ((c_lushr q 40 40 (by decide) (by decide)).trans (own_Qd q 5).symm) rfl
theorem own_uy6 (q : Int64) : ((nar .byte (own_y q 48)) &&& (255 : Int32)).toInt = own_Q q 6 % 256 ∧ 0 ≤ own_Q q 6 % 256 ∧ own_Q q 6 % 256 < 256 :=
  own_ub (own_y q 48) (own_u q 48) _ ((c_lushr q 48 48 (by decide) (by decide)).trans (own_Qd q 6).symm) rfl
theorem own_uy7 (q : Int64) : ((nar .byte (own_y q 56)) &&& (255 : Int32)).toInt = own_Q q 7 % 256 ∧ 0 ≤ own_Q q 7 % 256 ∧ own_Q q 7 % 256 < 256 :=
  own_ub (own_y q 56) (own_u q 56) _ ((c_lushr q 56 56 (by decide) (by decide)).trans (own_Qd q 7).symm) rfl
theorem own_dv (q : Int64) : own_Q q 0 = q.toInt % 18446744073709551616 ∧ own_Q q 1 = own_Q q 0 / 256 ∧ own_Q q 2 = own_Q q 1 / 256 ∧ own_Q q 3 = own_Q q 2 / 256 ∧ own_Q q 4 = own_Q q 3 / 256 ∧ own_Q q 5 = own_Q q 4 / 256 ∧ own_Q q 6 = own_Q q 5 / 256 ∧ own_Q q 7 = own_Q q 6 / 256 := ⟨rfl, rfl, rfl, rfl, rfl, rfl, rfl, rfl⟩
theorem own_fin8 (q : Int64) : own_num (own_ob q 8) = q := by
  have u7 := own_uy7 q
  have u6 := own_uy6 q
  have u5 := own_uy5 q
  have u4 := own_uy4 q
  have u3 := own_uy3 q
  have u2 := own_uy2 q
  have u1 := own_uy1 q
  have u0 := own_uy0 q
  have s0 := own_st (0 : Int64) 0 (nar .byte (own_y q 56)) (by decide) _ u7
  have s1 := own_st _ _ (nar .byte (own_y q 48)) s0 _ u6
  have s2 := own_st _ _ (nar .byte (own_y q 40)) s1 _ u5
  have s3 := own_st _ _ (nar .byte (own_y q 32)) s2 _ u4
  have s4 := own_st _ _ (nar .byte (own_y q 24)) s3 _ u3
  have s5 := own_st _ _ (nar .byte (own_y q 16)) s4 _ u2
  have s6 := own_st _ _ (nar .byte (own_y q 8)) s5 _ u1
  have s7 := own_st _ _ (nar .byte (own_y0 q)) s6 _ u0
  have sz : ((own_num (own_ob q 8)).toInt - ((((((((0 * 256 + own_Q q 7 % 256) * 256 + own_Q q 6 % 256) * 256 + own_Q q 5 % 256) * 256 + own_Q q 4 % 256) * 256 + own_Q q 3 % 256) * 256 + own_Q q 2 % 256) * 256 + own_Q q 1 % 256) * 256 + own_Q q 0 % 256)) % 18446744073709551616 = 0 := s7
  clear s0 s1 s2 s3 s4 s5 s6 s7
  have v := own_dv q
  apply own_eq64
  generalize (own_num (own_ob q 8)).toInt = X at *
  omega

def own_ae (a b : Int32) : Int32 := if a = b then 1 else 0
theorem own_ae1 {a b : Int32} (h : a = b) : own_ae a b = 1 := if_pos h
theorem own_ae0 {a b : Int32} (h : ¬ a = b) : own_ae a b = 0 := if_neg h

theorem own_puts (y0 y1 y2 y3 y4 y5 y6 y7 y8 y9 y10 : Value) (x0 x1 x2 x3 x4 x5 x6 x7 : Int32) {k : Nat} (hk : k ≤ 3) {j : Nat} (hj : j < 8) : ((((((((([y0, y1, y2, y3, y4, y5, y6, y7, y8, y9, y10].set (k) (.int x0)).set (k + 1) (.int x1)).set (k + 2) (.int x2)).set (k + 3) (.int x3)).set (k + 4) (.int x4)).set (k + 5) (.int x5)).set (k + 6) (.int x6)).set (k + 7) (.int x7))).getD (k + j) (.int (0 : Int32)) = .int ([x0, x1, x2, x3, x4, x5, x6, x7].getD j 0) := by
  have h1 : k = 0 ∨ k = 1 ∨ k = 2 ∨ k = 3 := by omega
  have h2 : j = 0 ∨ j = 1 ∨ j = 2 ∨ j = 3 ∨ j = 4 ∨ j = 5 ∨ j = 6 ∨ j = 7 := by omega
  rcases h1 with rfl | rfl | rfl | rfl <;> rcases h2 with rfl | rfl | rfl | rfl | rfl | rfl | rfl | rfl <;> rfl
theorem own_kv (p : Int32) : 0 ≤ (p &&& (3 : Int32)).toInt ∧ (p &&& (3 : Int32)).toInt ≤ 3 := by
  have h1 := c_mask p 3 2 (by decide) (by decide)
  omega
theorem d1_0 : decode prog_10_method_1_code 0 = .ok (.aload_n 0, 1) := by decide +kernel
theorem d1_1 : decode prog_10_method_1_code 1 = .ok (.invokespecial 1, 3) := by decide +kernel
theorem d1_4 : decode prog_10_method_1_code 4 = .ok (.aload_n 0, 1) := by decide +kernel
theorem d1_5 : decode prog_10_method_1_code 5 = .ok (.aload_n 1, 1) := by decide +kernel
theorem d1_6 : decode prog_10_method_1_code 6 = .ok (.putfield 7, 3) := by decide +kernel
theorem d1_9 : decode prog_10_method_1_code 9 = .ok (.return_, 1) := by decide +kernel
theorem own_pn0 : plainName "com/example/laiskas/laiskas/protocol/Decoder" = true := by first | (simp [plainName, overriddenIn]; done) | decide +kernel
theorem own_ef1 (m : MethodId) (a1 : Addr) (a2 : Addr) : entryFrame m #[(.ref a1), (.ref a2)] 2 = mkF m 0 #[.val (.ref a1), .val (.ref a2)] [] := by first | (simp [entryFrame, mkF, argsToLocals, Value.category]; done) | rfl
def Q_own_init (Z : State) (a1 : Addr) (a2 : Addr) (h0 : Heap) (n0 : Nat)  : Option Value → Heap → List Loc → Prop := fun v h L => v = none ∧ Fr n0 L ∧ Keep h0 h [a1] ∧ Fld Z h a1 "com/example/laiskas/laiskas/protocol/Decoder" "bytes" "[B" (.ref a2) ∧ Fld Z h a1 "com/example/laiskas/laiskas/protocol/Decoder" "position" "I" (.int (0 : Int32))
set_option maxRecDepth 65536 in
set_option maxHeartbeats 40000000 in
theorem own_init (l : Launch) (Z : State) (a0 : Array Value) (hw : ∀ d ∈ tables_1, d.before a0 Z = true)  (a1 : Addr) (a2 : Addr) (h0 : Heap) (n0 : Nat)  (Z0 : n0 ≤ h0.size) (F_a1_bytes : Fld Z h0 a1 "com/example/laiskas/laiskas/protocol/Decoder" "bytes" "[B" .null) (F_a1_position : Fld Z h0 a1 "com/example/laiskas/laiskas/protocol/Decoder" "position" "I" (.int (0 : Int32))) (E_a1 : Exa Z h0 a1 "com/example/laiskas/laiskas/protocol/Decoder") (ge_a1 : n0 ≤ a1) :
    ownMet l Z (⟨"com/example/laiskas/laiskas/protocol/Decoder", "<init>", "([B)V"⟩ : MethodName) prog_10_method_1_code 2 none [] ({ frames := 1, cells := 0, slots := 0, locals := 12 } : Room) #[(.ref a1), (.ref a2)] h0 (Q_own_init Z a1 a2 h0 n0 ) := by
  refine ownBody (plainFor_of_name own_pn0) ?_
  intro p e s m below meth c T0 hx hby hml hret hlk hZ hown hnm X0 e0
  have N0 : Fr n0 [] := Fr.nil n0
  refine ownVia (fun _ k => castTop (own_ef1 m a1 a2) k) ?_
  show ownFin _ _ _ _ _ (T0.setTop (mkF m 0 #[.val (.ref a1), .val (.ref a2)] []))
  have K0 : Keep h0 h0 [a1] := Keep.refl _ _
  refine ownVia (fun _ k => XS.aloadN X0.here hx rfl (hb hby d1_0) rfl rfl k) ?_
  show ownFin _ _ _ _ _ (T0.setTop (mkF m 1 #[.val (.ref a1), .val (.ref a2)] [(.ref a1)]))
  obtain ⟨T2, X2, e2, st2⟩ := initO X0 hx hZ hown (hw _ (List.mem_of_getElem? (i := 7) rfl)) (hw _ (List.mem_of_getElem? (i := 8) rfl)) (hw _ (List.mem_of_getElem? (i := 9) rfl)) e0 (g := (mkF m 1 #[.val (.ref a1), .val (.ref a2)] [(.ref a1)])) rfl (by rw [hml]; rfl) rfl (hb hby d1_1) (by decide) (W := 0) (by show 2 * 0 + _ ≤ _; exact Nat.le_of_eq rfl) (by decide)
  refine ownVia st2 ?_
  show ownFin _ _ _ _ _ (T2.setTop (mkF m 4 #[.val (.ref a1), .val (.ref a2)] []))
  refine ownVia (fun _ k => XS.aloadN X2.here hx rfl (hb hby d1_4) rfl rfl k) ?_
  show ownFin _ _ _ _ _ (T2.setTop (mkF m 5 #[.val (.ref a1), .val (.ref a2)] [(.ref a1)]))
  refine ownVia (fun _ k => XS.aloadN X2.here hx rfl (hb hby d1_5) rfl rfl k) ?_
  show ownFin _ _ _ _ _ (T2.setTop (mkF m 6 #[.val (.ref a1), .val (.ref a2)] [(.ref a2), (.ref a1)]))
  obtain ⟨T3, h3, X3, e3, W3, st3⟩ := putF X2 hx hZ hown (host := "") (Or.inl (hw _ (List.mem_of_getElem? (i := 10) rfl))) Via.refl e2 F_a1_bytes E_a1 (Or.inr ⟨(hw _ (List.mem_of_getElem? (i := 11) rfl)), rfl, hnm⟩) (hw _ (List.mem_of_getElem? (i := 2) rfl)) (ty := (.array .byte)) (by decide) rfl rfl (g := (mkF m 6 #[.val (.ref a1), .val (.ref a2)] [(.ref a2), (.ref a1)])) rfl rfl (hb hby d1_6)
  have N3 := Fr.snoc X3 N0 ge_a1
  have F_a1_bytes := F_a1_bytes.same W3
  have F_a1_position := F_a1_position.other W3 (Or.inr (slot_ne (Or.inl (hw _ (List.mem_of_getElem? (i := 22) rfl))) (Or.inr (hw _ (List.mem_of_getElem? (i := 11) rfl))) (by decide) (t := .int) (t' := (.array .byte)) (by decide) (by decide)))
  have E_a1 := E_a1.wr W3
  have K0 := K0.wr W3 (Or.inl (List.mem_of_getElem? (i := 0) rfl))
  have Z0 := own_szW Z0 W3
  refine ownVia st3 ?_
  show ownFin _ _ _ _ _ (T3.setTop (mkF m 9 #[.val (.ref a1), .val (.ref a2)] []))
  refine ownRetV X3 hx hlk hret (hb hby d1_9) (by decide) (by decide) ?_
  show (Q_own_init Z a1 a2 h0 n0 ) none T3.heap _
  rw [e3]
  exact ⟨rfl, N3, K0, F_a1_bytes, F_a1_position⟩
theorem d4_0 : decode prog_10_method_14_code 0 = .ok (.iload_n 1, 1) := by decide +kernel
theorem d4_1 : decode prog_10_method_14_code 1 = .ok (.aload_n 0, 1) := by decide +kernel
theorem d4_2 : decode prog_10_method_14_code 2 = .ok (.getfield 7, 3) := by decide +kernel
theorem d4_5 : decode prog_10_method_14_code 5 = .ok (.arraylength, 1) := by decide +kernel
theorem d4_6 : decode prog_10_method_14_code 6 = .ok (.aload_n 0, 1) := by decide +kernel
theorem d4_7 : decode prog_10_method_14_code 7 = .ok (.getfield 17, 3) := by decide +kernel
theorem d4_10 : decode prog_10_method_14_code 10 = .ok (.isub, 1) := by decide +kernel
theorem d4_11 : decode prog_10_method_14_code 11 = .ok (.if_icmp .le 27, 3) := by decide +kernel
theorem d4_14 : decode prog_10_method_14_code 14 = .ok (.new 25, 3) := by decide +kernel
theorem d4_17 : decode prog_10_method_14_code 17 = .ok (.dup, 1) := by decide +kernel
theorem d4_18 : decode prog_10_method_14_code 18 = .ok (.iload_n 1, 1) := by decide +kernel
theorem d4_19 : decode prog_10_method_14_code 19 = .ok (.aload_n 0, 1) := by decide +kernel
theorem d4_20 : decode prog_10_method_14_code 20 = .ok (.getfield 7, 3) := by decide +kernel
theorem d4_23 : decode prog_10_method_14_code 23 = .ok (.arraylength, 1) := by decide +kernel
theorem d4_24 : decode prog_10_method_14_code 24 = .ok (.aload_n 0, 1) := by decide +kernel
theorem d4_25 : decode prog_10_method_14_code 25 = .ok (.getfield 17, 3) := by decide +kernel
theorem d4_28 : decode prog_10_method_14_code 28 = .ok (.isub, 1) := by decide +kernel
theorem d4_29 : decode prog_10_method_14_code 29 = .ok (.invokedynamic 55, 5) := by decide +kernel
theorem d4_34 : decode prog_10_method_14_code 34 = .ok (.invokespecial 31, 3) := by decide +kernel
theorem d4_37 : decode prog_10_method_14_code 37 = .ok (.athrow, 1) := by decide +kernel
theorem d4_38 : decode prog_10_method_14_code 38 = .ok (.return_, 1) := by decide +kernel
theorem own_ef4 (m : MethodId) (a1 : Addr) (p1 : Int32) : entryFrame m #[(.ref a1), (.int p1)] 2 = mkF m 0 #[.val (.ref a1), .val (.int p1)] [] := by first | (simp [entryFrame, mkF, argsToLocals, Value.category]; done) | rfl
def Q_own_require (Z : State) (a1 : Addr) (p1 : Int32) (h0 : Heap) (n0 : Nat) (b1 : Addr) (k_b1 : ClassId) (z pos : Int32) (vs : List Value) (dv : Value) : Option Value → Heap → List Loc → Prop := fun v h L => v = none ∧ Fr n0 L ∧ h = h0
set_option maxRecDepth 65536 in
set_option maxHeartbeats 40000000 in
theorem own_require (l : Launch) (Z : State) (a0 : Array Value) (hw : ∀ d ∈ tables_1, d.before a0 Z = true)  (a1 : Addr) (p1 : Int32) (h0 : Heap) (n0 : Nat) (b1 : Addr) (k_b1 : ClassId) (z pos : Int32) (vs : List Value) (dv : Value) (Z0 : n0 ≤ h0.size) (F_a1_bytes : Fld Z h0 a1 "com/example/laiskas/laiskas/protocol/Decoder" "bytes" "[B" (.ref b1)) (F_a1_position : Fld Z h0 a1 "com/example/laiskas/laiskas/protocol/Decoder" "position" "I" (.int pos)) (E_a1 : Exa Z h0 a1 "com/example/laiskas/laiskas/protocol/Decoder") (A_b1 : Arv Z h0 b1 k_b1 .byte z vs dv) (ne_a1_b1 : a1 ≠ b1) (hreq : ¬ (z - pos) < p1) :
    ownMet l Z (⟨"com/example/laiskas/laiskas/protocol/Decoder", "require", "(I)V"⟩ : MethodName) prog_10_method_14_code 2 none [] ({ frames := 0, cells := 0, slots := 0, locals := 0 } : Room) #[(.ref a1), (.int p1)] h0 (Q_own_require Z a1 p1 h0 n0 b1 k_b1 z pos vs dv) := by
  refine ownBody (plainFor_of_name own_pn0) ?_
  intro p e s m below meth c T0 hx hby hml hret hlk hZ hown hnm X0 e0
  have N0 : Fr n0 [] := Fr.nil n0
  refine ownVia (fun _ k => castTop (own_ef4 m a1 p1) k) ?_
  show ownFin _ _ _ _ _ (T0.setTop (mkF m 0 #[.val (.ref a1), .val (.int p1)] []))
  refine ownVia (fun _ k => XS.iloadN X0.here hx rfl (hb hby d4_0) rfl k) ?_
  show ownFin _ _ _ _ _ (T0.setTop (mkF m 1 #[.val (.ref a1), .val (.int p1)] [(.int p1)]))
  refine ownVia (fun _ k => XS.aloadN X0.here hx rfl (hb hby d4_1) rfl rfl k) ?_
  show ownFin _ _ _ _ _ (T0.setTop (mkF m 2 #[.val (.ref a1), .val (.int p1)] [(.ref a1), (.int p1)]))
  obtain ⟨T5, X5, e5, st5⟩ := getF X0 hx hZ hown (host := "") (Or.inl (hw _ (List.mem_of_getElem? (i := 10) rfl))) Via.refl e0 F_a1_bytes (g := (mkF m 2 #[.val (.ref a1), .val (.int p1)] [(.ref a1), (.int p1)])) rfl rfl (hb hby d4_2)
  refine ownVia st5 ?_
  show ownFin _ _ _ _ _ (T5.setTop (mkF m 5 #[.val (.ref a1), .val (.int p1)] [(.ref b1), (.int p1)]))
  refine ownLen X5 hx hZ e5 A_b1 (hb hby d4_5) ?_
  show ownFin _ _ _ _ _ (T5.setTop (mkF m 6 #[.val (.ref a1), .val (.int p1)] [(.int z), (.int p1)]))
  refine ownVia (fun _ k => XS.aloadN X5.here hx rfl (hb hby d4_6) rfl rfl k) ?_
  show ownFin _ _ _ _ _ (T5.setTop (mkF m 7 #[.val (.ref a1), .val (.int p1)] [(.ref a1), (.int z), (.int p1)]))
  obtain ⟨T6, X6, e6, st6⟩ := getF X5 hx hZ hown (host := "") (Or.inl (hw _ (List.mem_of_getElem? (i := 21) rfl))) Via.refl e5 F_a1_position (g := (mkF m 7 #[.val (.ref a1), .val (.int p1)] [(.ref a1), (.int z), (.int p1)])) rfl rfl (hb hby d4_7)
  refine ownVia st6 ?_
  show ownFin _ _ _ _ _ (T6.setTop (mkF m 10 #[.val (.ref a1), .val (.int p1)] [(.int pos), (.int z), (.int p1)]))
  refine ownVia (fun _ k => XS.isub X6.here hx rfl (hb hby d4_10) rfl k) ?_
  show ownFin _ _ _ _ _ (T6.setTop (mkF m 11 #[.val (.ref a1), .val (.int p1)] [(.int (z - pos)), (.int p1)]))
  refine ownVia (fun _ k => XS.icmpYes X6.here hx rfl (pc0 := 11) (pc' := 38) rfl (hb hby d4_11) rfl (flt hreq).2.2.2 (by decide) (by decide) k) ?_
  show ownFin _ _ _ _ _ (T6.setTop (mkF m 38 #[.val (.ref a1), .val (.int p1)] []))
  refine ownRetV X6 hx hlk hret (hb hby d4_38) (by decide) (by decide) ?_
  show (Q_own_require Z a1 p1 h0 n0 b1 k_b1 z pos vs dv) none T6.heap _
  rw [e6]
  exact ⟨rfl, N0, rfl⟩
theorem d3_0 : decode prog_10_method_8_code 0 = .ok (.aload_n 0, 1) := by decide +kernel
theorem d3_1 : decode prog_10_method_8_code 1 = .ok (.iload_n 1, 1) := by decide +kernel
theorem d3_2 : decode prog_10_method_8_code 2 = .ok (.invokevirtual 13, 3) := by decide +kernel
theorem d3_5 : decode prog_10_method_8_code 5 = .ok (.aload_n 0, 1) := by decide +kernel
theorem d3_6 : decode prog_10_method_8_code 6 = .ok (.dup, 1) := by decide +kernel
theorem d3_7 : decode prog_10_method_8_code 7 = .ok (.getfield 17, 3) := by decide +kernel
theorem d3_10 : decode prog_10_method_8_code 10 = .ok (.iload_n 1, 1) := by decide +kernel
theorem d3_11 : decode prog_10_method_8_code 11 = .ok (.iadd, 1) := by decide +kernel
theorem d3_12 : decode prog_10_method_8_code 12 = .ok (.putfield 17, 3) := by decide +kernel
theorem d3_15 : decode prog_10_method_8_code 15 = .ok (.return_, 1) := by decide +kernel
theorem own_ef7 (m : MethodId) (a1 : Addr) (p1 : Int32) : entryFrame m #[(.ref a1), (.int p1)] 2 = mkF m 0 #[.val (.ref a1), .val (.int p1)] [] := by first | (simp [entryFrame, mkF, argsToLocals, Value.category]; done) | rfl
def Q_own_skip (Z : State) (a1 : Addr) (p1 : Int32) (h0 : Heap) (n0 : Nat) (b1 : Addr) (k_b1 : ClassId) (z pos : Int32) (vs : List Value) (dv : Value) : Option Value → Heap → List Loc → Prop := fun v h L => v = none ∧ Fr n0 L ∧ Keep h0 h [a1] ∧ Fld Z h a1 "com/example/laiskas/laiskas/protocol/Decoder" "bytes" "[B" (.ref b1) ∧ Fld Z h a1 "com/example/laiskas/laiskas/protocol/Decoder" "position" "I" (.int (pos + p1))
theorem own_pd0 : parseMethodDescriptor "(I)V" = some ⟨[.int], none⟩ := by decide +kernel
set_option maxRecDepth 65536 in
set_option maxHeartbeats 40000000 in
theorem own_skip (l : Launch) (Z : State) (a0 : Array Value) (hw : ∀ d ∈ tables_1, d.before a0 Z = true)  (a1 : Addr) (p1 : Int32) (h0 : Heap) (n0 : Nat) (b1 : Addr) (k_b1 : ClassId) (z pos : Int32) (vs : List Value) (dv : Value) (Z0 : n0 ≤ h0.size) (F_a1_bytes : Fld Z h0 a1 "com/example/laiskas/laiskas/protocol/Decoder" "bytes" "[B" (.ref b1)) (F_a1_position : Fld Z h0 a1 "com/example/laiskas/laiskas/protocol/Decoder" "position" "I" (.int pos)) (E_a1 : Exa Z h0 a1 "com/example/laiskas/laiskas/protocol/Decoder") (A_b1 : Arv Z h0 b1 k_b1 .byte z vs dv) (ne_a1_b1 : a1 ≠ b1) (ge_a1 : n0 ≤ a1) (hreq : ¬ (z - pos) < p1) :
    ownMet l Z (⟨"com/example/laiskas/laiskas/protocol/Decoder", "skip", "(I)V"⟩ : MethodName) prog_10_method_8_code 2 none [] ({ frames := 1, cells := 0, slots := 0, locals := 16 } : Room) #[(.ref a1), (.int p1)] h0 (Q_own_skip Z a1 p1 h0 n0 b1 k_b1 z pos vs dv) := by
  refine ownBody (plainFor_of_name own_pn0) ?_
  intro p e s m below meth c T0 hx hby hml hret hlk hZ hown hnm X0 e0
  have N0 : Fr n0 [] := Fr.nil n0
  refine ownVia (fun _ k => castTop (own_ef7 m a1 p1) k) ?_
  show ownFin _ _ _ _ _ (T0.setTop (mkF m 0 #[.val (.ref a1), .val (.int p1)] []))
  have K0 : Keep h0 h0 [a1] := Keep.refl _ _
  refine ownVia (fun _ k => XS.aloadN X0.here hx rfl (hb hby d3_0) rfl rfl k) ?_
  show ownFin _ _ _ _ _ (T0.setTop (mkF m 1 #[.val (.ref a1), .val (.int p1)] [(.ref a1)]))
  refine ownVia (fun _ k => XS.iloadN X0.here hx rfl (hb hby d3_1) rfl k) ?_
  show ownFin _ _ _ _ _ (T0.setTop (mkF m 2 #[.val (.ref a1), .val (.int p1)] [(.int p1), (.ref a1)]))
  refine ownCallP (y2 := (⟨"com/example/laiskas/laiskas/protocol/Decoder", "skip", "(I)V"⟩ : MethodName)) X0 hx hZ hown (hw _ (List.mem_of_getElem? (i := 17) rfl)) (hw _ (List.mem_of_getElem? (i := 19) rfl)) (hw _ (List.mem_of_getElem? (i := 15) rfl)) rfl (hw _ (List.mem_of_getElem? (i := 18) rfl)) (hw _ (List.mem_of_getElem? (i := 3) rfl)) (hw _ (List.mem_of_getElem? (i := 20) rfl)) (by decide) e0 E_a1 (own_require l Z a0 hw a1 p1 h0 n0 b1 k_b1 z pos vs dv Z0 F_a1_bytes F_a1_position E_a1 A_b1 ne_a1_b1 hreq) (by rw [hml]; rfl) [(.int p1)] [] (lenOf own_pd0 rfl) rfl rfl 0 rfl (hb hby d3_2) (by decide) (by decide) (by decide) (by decide) ?_
  intro v8 T8 L8 X8 hq8
  obtain ⟨rfl, N8q, eq8⟩ := hq8
  have N8 := Fr.app N0 N8q
  have e8 : T8.heap = h0 := eq8
  show ownFin _ _ _ _ _ (T8.setTop (mkF m 5 #[.val (.ref a1), .val (.int p1)] []))
  refine ownVia (fun _ k => XS.aloadN X8.here hx rfl (hb hby d3_5) rfl rfl k) ?_
  show ownFin _ _ _ _ _ (T8.setTop (mkF m 6 #[.val (.ref a1), .val (.int p1)] [(.ref a1)]))
  refine ownVia (fun _ k => XS.dup X8.here hx rfl (hb hby d3_6) rfl rfl k) ?_
  show ownFin _ _ _ _ _ (T8.setTop (mkF m 7 #[.val (.ref a1), .val (.int p1)] [(.ref a1), (.ref a1)]))
  obtain ⟨T9, X9, e9, st9⟩ := getF X8 hx hZ hown (host := "") (Or.inl (hw _ (List.mem_of_getElem? (i := 21) rfl))) Via.refl e8 F_a1_position (g := (mkF m 7 #[.val (.ref a1), .val (.int p1)] [(.ref a1), (.ref a1)])) rfl rfl (hb hby d3_7)
  refine ownVia st9 ?_
  show ownFin _ _ _ _ _ (T9.setTop (mkF m 10 #[.val (.ref a1), .val (.int p1)] [(.int pos), (.ref a1)]))
  refine ownVia (fun _ k => XS.iloadN X9.here hx rfl (hb hby d3_10) rfl k) ?_
  show ownFin _ _ _ _ _ (T9.setTop (mkF m 11 #[.val (.ref a1), .val (.int p1)] [(.int p1), (.int pos), (.ref a1)]))
  refine ownVia (fun _ k => XS.iadd X9.here hx rfl (hb hby d3_11) rfl k) ?_
  show ownFin _ _ _ _ _ (T9.setTop (mkF m 12 #[.val (.ref a1), .val (.int p1)] [(.int (pos + p1)), (.ref a1)]))
  obtain ⟨T10, h10, X10, e10, W10, st10⟩ := putF X9 hx hZ hown (host := "") (Or.inl (hw _ (List.mem_of_getElem? (i := 21) rfl))) Via.refl e9 F_a1_position E_a1 (Or.inl (hw _ (List.mem_of_getElem? (i := 22) rfl))) (hw _ (List.mem_of_getElem? (i := 2) rfl)) (ty := .int) (by decide) rfl rfl (g := (mkF m 12 #[.val (.ref a1), .val (.int p1)] [(.int (pos + p1)), (.ref a1)])) rfl rfl (hb hby d3_12)
  have N10 := Fr.snoc X10 N8 ge_a1
  have F_a1_position := F_a1_position.same W10
  have F_a1_bytes := F_a1_bytes.other W10 (Or.inr (slot_ne (Or.inr (hw _ (List.mem_of_getElem? (i := 11) rfl))) (Or.inl (hw _ (List.mem_of_getElem? (i := 22) rfl))) (by decide) (t := (.array .byte)) (t' := .int) (by decide) (by decide)))
  have E_a1 := E_a1.wr W10
  have A_b1 := A_b1.other W10 (Ne.symm ne_a1_b1)
  have K0 := K0.wr W10 (Or.inl (List.mem_of_getElem? (i := 0) rfl))
  have Z0 := own_szW Z0 W10
  refine ownVia st10 ?_
  show ownFin _ _ _ _ _ (T10.setTop (mkF m 15 #[.val (.ref a1), .val (.int p1)] []))
  refine ownRetV X10 hx hlk hret (hb hby d3_15) (by decide) (by decide) ?_
  show (Q_own_skip Z a1 p1 h0 n0 b1 k_b1 z pos vs dv) none T10.heap _
  rw [e10]
  exact ⟨rfl, N10, K0, F_a1_bytes, F_a1_position⟩
theorem d6_0 : decode prog_10_method_12_code 0 = .ok (.aload_n 0, 1) := by decide +kernel
theorem d6_1 : decode prog_10_method_12_code 1 = .ok (.getfield 17, 3) := by decide +kernel
theorem d6_4 : decode prog_10_method_12_code 4 = .ok (.aload_n 0, 1) := by decide +kernel
theorem d6_5 : decode prog_10_method_12_code 5 = .ok (.getfield 7, 3) := by decide +kernel
theorem d6_8 : decode prog_10_method_12_code 8 = .ok (.arraylength, 1) := by decide +kernel
theorem d6_9 : decode prog_10_method_12_code 9 = .ok (.if_icmp .ne 7, 3) := by decide +kernel
theorem d6_12 : decode prog_10_method_12_code 12 = .ok (.iconst 1, 1) := by decide +kernel
theorem d6_13 : decode prog_10_method_12_code 13 = .ok (.goto 4, 3) := by decide +kernel
theorem d6_16 : decode prog_10_method_12_code 16 = .ok (.iconst 0, 1) := by decide +kernel
theorem d6_17 : decode prog_10_method_12_code 17 = .ok (.ireturn, 1) := by decide +kernel
theorem own_ef11 (m : MethodId) (a1 : Addr) : entryFrame m #[(.ref a1)] 1 = mkF m 0 #[.val (.ref a1)] [] := by first | (simp [entryFrame, mkF, argsToLocals, Value.category]; done) | rfl
def Q_own_atend (Z : State) (a1 : Addr) (h0 : Heap) (n0 : Nat) (b1 : Addr) (k_b1 : ClassId) (z pos : Int32) (vs : List Value) (dv : Value) : Option Value → Heap → List Loc → Prop := fun v h L => v = some (.int (own_ae pos z)) ∧ Fr n0 L ∧ h = h0
set_option maxRecDepth 65536 in
set_option maxHeartbeats 40000000 in
theorem own_atend (l : Launch) (Z : State) (a0 : Array Value) (hw : ∀ d ∈ tables_1, d.before a0 Z = true)  (a1 : Addr) (h0 : Heap) (n0 : Nat) (b1 : Addr) (k_b1 : ClassId) (z pos : Int32) (vs : List Value) (dv : Value) (Z0 : n0 ≤ h0.size) (F_a1_bytes : Fld Z h0 a1 "com/example/laiskas/laiskas/protocol/Decoder" "bytes" "[B" (.ref b1)) (F_a1_position : Fld Z h0 a1 "com/example/laiskas/laiskas/protocol/Decoder" "position" "I" (.int pos)) (E_a1 : Exa Z h0 a1 "com/example/laiskas/laiskas/protocol/Decoder") (A_b1 : Arv Z h0 b1 k_b1 .byte z vs dv) (ne_a1_b1 : a1 ≠ b1) :
    ownMet l Z (⟨"com/example/laiskas/laiskas/protocol/Decoder", "atEnd", "()Z"⟩ : MethodName) prog_10_method_12_code 1 (some .boolean) [] ({ frames := 0, cells := 0, slots := 0, locals := 0 } : Room) #[(.ref a1)] h0 (Q_own_atend Z a1 h0 n0 b1 k_b1 z pos vs dv) := by
  refine ownBody (plainFor_of_name own_pn0) ?_
  intro p e s m below meth c T0 hx hby hml hret hlk hZ hown hnm X0 e0
  have N0 : Fr n0 [] := Fr.nil n0
  refine ownVia (fun _ k => castTop (own_ef11 m a1) k) ?_
  show ownFin _ _ _ _ _ (T0.setTop (mkF m 0 #[.val (.ref a1)] []))
  refine ownVia (fun _ k => XS.aloadN X0.here hx rfl (hb hby d6_0) rfl rfl k) ?_
  show ownFin _ _ _ _ _ (T0.setTop (mkF m 1 #[.val (.ref a1)] [(.ref a1)]))
  obtain ⟨T12, X12, e12, st12⟩ := getF X0 hx hZ hown (host := "") (Or.inl (hw _ (List.mem_of_getElem? (i := 21) rfl))) Via.refl e0 F_a1_position (g := (mkF m 1 #[.val (.ref a1)] [(.ref a1)])) rfl rfl (hb hby d6_1)
  refine ownVia st12 ?_
  show ownFin _ _ _ _ _ (T12.setTop (mkF m 4 #[.val (.ref a1)] [(.int pos)]))
  refine ownVia (fun _ k => XS.aloadN X12.here hx rfl (hb hby d6_4) rfl rfl k) ?_
  show ownFin _ _ _ _ _ (T12.setTop (mkF m 5 #[.val (.ref a1)] [(.ref a1), (.int pos)]))
  obtain ⟨T13, X13, e13, st13⟩ := getF X12 hx hZ hown (host := "") (Or.inl (hw _ (List.mem_of_getElem? (i := 10) rfl))) Via.refl e12 F_a1_bytes (g := (mkF m 5 #[.val (.ref a1)] [(.ref a1), (.int pos)])) rfl rfl (hb hby d6_5)
  refine ownVia st13 ?_
  show ownFin _ _ _ _ _ (T13.setTop (mkF m 8 #[.val (.ref a1)] [(.ref b1), (.int pos)]))
  refine ownLen X13 hx hZ e13 A_b1 (hb hby d6_8) ?_
  show ownFin _ _ _ _ _ (T13.setTop (mkF m 9 #[.val (.ref a1)] [(.int z), (.int pos)]))
  by_cases hc14 : pos = z
  case pos =>
    have hc14I : pos.toInt = z.toInt := (own_eqi rfl rfl).mp hc14
    refine ownVia (fun _ k => XS.icmpNo X13.here hx rfl (hb hby d6_9) rfl (teq hc14).2 k) ?_
    show ownFin _ _ _ _ _ (T13.setTop (mkF m 12 #[.val (.ref a1)] []))
    refine ownVia (fun _ k => XS.iconst X13.here hx rfl (hb hby d6_12) k) ?_
    show ownFin _ _ _ _ _ (T13.setTop (mkF m 13 #[.val (.ref a1)] [(.int (1 : Int32))]))
    refine ownVia (fun _ k => XS.goto X13.here hx rfl (pc0 := 13) (pc' := 17) rfl (hb hby d6_13) (by decide) (by decide) k) ?_
    show ownFin _ _ _ _ _ (T13.setTop (mkF m 17 #[.val (.ref a1)] [(.int (1 : Int32))]))
    refine ownRetZ X13 hx hlk hret (hb hby d6_17) (by decide) (by decide) (Or.inr rfl) ?_
    show (Q_own_atend Z a1 h0 n0 b1 k_b1 z pos vs dv) (some (.int (1 : Int32))) T13.heap _
    rw [e13]
    exact ⟨by rw [own_ae1 hc14], N0, rfl⟩
  case neg =>
    have hc14I : ¬ pos.toInt = z.toInt := fun q => hc14 ((own_eqi rfl rfl).mpr q)
    refine ownVia (fun _ k => XS.icmpYes X13.here hx rfl (pc0 := 9) (pc' := 16) rfl (hb hby d6_9) rfl (feq hc14).2 (by decide) (by decide) k) ?_
    show ownFin _ _ _ _ _ (T13.setTop (mkF m 16 #[.val (.ref a1)] []))
    refine ownVia (fun _ k => XS.iconst X13.here hx rfl (hb hby d6_16) k) ?_
    show ownFin _ _ _ _ _ (T13.setTop (mkF m 17 #[.val (.ref a1)] [(.int (0 : Int32))]))
    refine ownRetZ X13 hx hlk hret (hb hby d6_17) (by decide) (by decide) (Or.inl rfl) ?_
    show (Q_own_atend Z a1 h0 n0 b1 k_b1 z pos vs dv) (some (.int (0 : Int32))) T13.heap _
    rw [e13]
    exact ⟨by rw [own_ae0 hc14], N0, rfl⟩
theorem d5_0 : decode prog_10_method_4_code 0 = .ok (.aload_n 0, 1) := by decide +kernel
theorem d5_1 : decode prog_10_method_4_code 1 = .ok (.bipush 8, 2) := by decide +kernel
theorem d5_3 : decode prog_10_method_4_code 3 = .ok (.invokevirtual 13, 3) := by decide +kernel
theorem d5_6 : decode prog_10_method_4_code 6 = .ok (.lconst 0, 1) := by decide +kernel
theorem d5_7 : decode prog_10_method_4_code 7 = .ok (.lstore_n 1, 1) := by decide +kernel
theorem d5_8 : decode prog_10_method_4_code 8 = .ok (.iconst 0, 1) := by decide +kernel
theorem d5_9 : decode prog_10_method_4_code 9 = .ok (.istore_n 3, 1) := by decide +kernel
theorem d5_10 : decode prog_10_method_4_code 10 = .ok (.iload_n 3, 1) := by decide +kernel
theorem d5_11 : decode prog_10_method_4_code 11 = .ok (.bipush 8, 2) := by decide +kernel
theorem d5_13 : decode prog_10_method_4_code 13 = .ok (.if_icmp .ge 31, 3) := by decide +kernel
theorem d5_16 : decode prog_10_method_4_code 16 = .ok (.lload_n 1, 1) := by decide +kernel
theorem d5_17 : decode prog_10_method_4_code 17 = .ok (.bipush 8, 2) := by decide +kernel
theorem d5_19 : decode prog_10_method_4_code 19 = .ok (.lshl, 1) := by decide +kernel
theorem d5_20 : decode prog_10_method_4_code 20 = .ok (.aload_n 0, 1) := by decide +kernel
theorem d5_21 : decode prog_10_method_4_code 21 = .ok (.getfield 7, 3) := by decide +kernel
theorem d5_24 : decode prog_10_method_4_code 24 = .ok (.aload_n 0, 1) := by decide +kernel
theorem d5_25 : decode prog_10_method_4_code 25 = .ok (.getfield 17, 3) := by decide +kernel
theorem d5_28 : decode prog_10_method_4_code 28 = .ok (.iload_n 3, 1) := by decide +kernel
theorem d5_29 : decode prog_10_method_4_code 29 = .ok (.iadd, 1) := by decide +kernel
theorem d5_30 : decode prog_10_method_4_code 30 = .ok (.baload, 1) := by decide +kernel
theorem d5_31 : decode prog_10_method_4_code 31 = .ok (.sipush 255, 3) := by decide +kernel
theorem d5_34 : decode prog_10_method_4_code 34 = .ok (.iand, 1) := by decide +kernel
theorem d5_35 : decode prog_10_method_4_code 35 = .ok (.i2l, 1) := by decide +kernel
theorem d5_36 : decode prog_10_method_4_code 36 = .ok (.lor, 1) := by decide +kernel
theorem d5_37 : decode prog_10_method_4_code 37 = .ok (.lstore_n 1, 1) := by decide +kernel
theorem d5_38 : decode prog_10_method_4_code 38 = .ok (.iinc 3 1, 3) := by decide +kernel
theorem d5_41 : decode prog_10_method_4_code 41 = .ok (.goto (-31), 3) := by decide +kernel
theorem d5_44 : decode prog_10_method_4_code 44 = .ok (.aload_n 0, 1) := by decide +kernel
theorem d5_45 : decode prog_10_method_4_code 45 = .ok (.dup, 1) := by decide +kernel
theorem d5_46 : decode prog_10_method_4_code 46 = .ok (.getfield 17, 3) := by decide +kernel
theorem d5_49 : decode prog_10_method_4_code 49 = .ok (.bipush 8, 2) := by decide +kernel
theorem d5_51 : decode prog_10_method_4_code 51 = .ok (.iadd, 1) := by decide +kernel
theorem d5_52 : decode prog_10_method_4_code 52 = .ok (.putfield 17, 3) := by decide +kernel
theorem d5_55 : decode prog_10_method_4_code 55 = .ok (.lload_n 1, 1) := by decide +kernel
theorem d5_56 : decode prog_10_method_4_code 56 = .ok (.lreturn, 1) := by decide +kernel
theorem own_ef15 (m : MethodId) (a1 : Addr) : entryFrame m #[(.ref a1)] 4 = mkF m 0 #[.val (.ref a1), .unset, .unset, .unset] [] := by first | (simp [entryFrame, mkF, argsToLocals, Value.category]; done) | rfl
def Q_own_int64 (Z : State) (a1 : Addr) (h0 : Heap) (n0 : Nat) (b1 : Addr) (k_b1 : ClassId) (z pos : Int32) (vs : List Value) (i0 lz : Nat) (bs : List Int32) : Option Value → Heap → List Loc → Prop := fun v h L => v = some (.long (own_num bs)) ∧ Fr n0 L ∧ Keep h0 h [a1] ∧ Fld Z h a1 "com/example/laiskas/laiskas/protocol/Decoder" "bytes" "[B" (.ref b1) ∧ Fld Z h a1 "com/example/laiskas/laiskas/protocol/Decoder" "position" "I" (.int (pos + (8 : Int32)))
set_option maxRecDepth 65536 in
set_option maxHeartbeats 40000000 in
theorem own_int64 (l : Launch) (Z : State) (a0 : Array Value) (hw : ∀ d ∈ tables_1, d.before a0 Z = true)  (a1 : Addr) (h0 : Heap) (n0 : Nat) (b1 : Addr) (k_b1 : ClassId) (z pos : Int32) (vs : List Value) (i0 lz : Nat) (bs : List Int32) (Z0 : n0 ≤ h0.size) (F_a1_bytes : Fld Z h0 a1 "com/example/laiskas/laiskas/protocol/Decoder" "bytes" "[B" (.ref b1)) (F_a1_position : Fld Z h0 a1 "com/example/laiskas/laiskas/protocol/Decoder" "position" "I" (.int pos)) (E_a1 : Exa Z h0 a1 "com/example/laiskas/laiskas/protocol/Decoder") (A_b1 : Arv Z h0 b1 k_b1 .byte z vs (.int (0 : Int32))) (ne_a1_b1 : a1 ≠ b1) (ge_a1 : n0 ≤ a1) (hp : pos.toInt = (i0 : Int)) (hz : z.toInt = (lz : Int)) (hbl : bs.length = 8) (hi8 : i0 + 8 ≤ lz) (hl : lz ≤ 64) (hat : ∀ j, j < 8 → vs.getD (i0 + j) (.int (0 : Int32)) = .int (bs.getD j 0)) :
    ownMet l Z (⟨"com/example/laiskas/laiskas/protocol/Decoder", "int64", "()J"⟩ : MethodName) prog_10_method_4_code 4 (some .long) [] ({ frames := 1, cells := 0, slots := 0, locals := 20 } : Room) #[(.ref a1)] h0 (Q_own_int64 Z a1 h0 n0 b1 k_b1 z pos vs i0 lz bs) := by
  refine ownBody (plainFor_of_name own_pn0) ?_
  intro p e s m below meth c T0 hx hby hml hret hlk hZ hown hnm X0 e0
  have N0 : Fr n0 [] := Fr.nil n0
  refine ownVia (fun _ k => castTop (own_ef15 m a1) k) ?_
  show ownFin _ _ _ _ _ (T0.setTop (mkF m 0 #[.val (.ref a1), .unset, .unset, .unset] []))
  have K0 : Keep h0 h0 [a1] := Keep.refl _ _
  refine ownVia (fun _ k => XS.aloadN X0.here hx rfl (hb hby d5_0) rfl rfl k) ?_
  show ownFin _ _ _ _ _ (T0.setTop (mkF m 1 #[.val (.ref a1), .unset, .unset, .unset] [(.ref a1)]))
  refine ownVia (fun _ k => XS.bipush X0.here hx rfl (hb hby d5_1) k) ?_
  show ownFin _ _ _ _ _ (T0.setTop (mkF m 3 #[.val (.ref a1), .unset, .unset, .unset] [(.int (8 : Int32)), (.ref a1)]))
  refine ownCallP (y2 := (⟨"com/example/laiskas/laiskas/protocol/Decoder", "skip", "(I)V"⟩ : MethodName)) X0 hx hZ hown (hw _ (List.mem_of_getElem? (i := 17) rfl)) (hw _ (List.mem_of_getElem? (i := 19) rfl)) (hw _ (List.mem_of_getElem? (i := 15) rfl)) rfl (hw _ (List.mem_of_getElem? (i := 18) rfl)) (hw _ (List.mem_of_getElem? (i := 3) rfl)) (hw _ (List.mem_of_getElem? (i := 20) rfl)) (by decide) e0 E_a1 (own_require l Z a0 hw a1 (8 : Int32) h0 n0 b1 k_b1 z pos vs (.int (0 : Int32)) Z0 F_a1_bytes F_a1_position E_a1 A_b1 ne_a1_b1 (own_nlt (own_sub hz hp (by omega)) (by decide : (8 : Int32).toInt = 8) (by omega))) (by rw [hml]; rfl) [(.int (8 : Int32))] [] (lenOf own_pd0 rfl) rfl rfl 0 rfl (hb hby d5_3) (by decide) (by decide) (by decide) (by decide) ?_
  intro v16 T16 L16 X16 hq16
  obtain ⟨rfl, N16q, eq16⟩ := hq16
  have N16 := Fr.app N0 N16q
  have e16 : T16.heap = h0 := eq16
  show ownFin _ _ _ _ _ (T16.setTop (mkF m 6 #[.val (.ref a1), .unset, .unset, .unset] []))
  refine ownVia (fun _ k => XS.lconst X16.here hx rfl (hb hby d5_6) k) ?_
  show ownFin _ _ _ _ _ (T16.setTop (mkF m 7 #[.val (.ref a1), .unset, .unset, .unset] [(.long (0 : Int64))]))
  refine ownVia (fun _ k => XS.lstoreN X16.here hx rfl (hb hby d5_7) rfl (l' := #[.val (.ref a1), .val (.long (0 : Int64)), .second, .unset]) rfl k) ?_
  show ownFin _ _ _ _ _ (T16.setTop (mkF m 8 #[.val (.ref a1), .val (.long (0 : Int64)), .second, .unset] []))
  refine ownVia (fun _ k => XS.iconst X16.here hx rfl (hb hby d5_8) k) ?_
  show ownFin _ _ _ _ _ (T16.setTop (mkF m 9 #[.val (.ref a1), .val (.long (0 : Int64)), .second, .unset] [(.int (0 : Int32))]))
  refine ownVia (fun _ k => XS.istoreN X16.here hx rfl (hb hby d5_9) rfl (l' := #[.val (.ref a1), .val (.long (0 : Int64)), .second, .val (.int (0 : Int32))]) rfl k) ?_
  show ownFin _ _ _ _ _ (T16.setTop (mkF m 10 #[.val (.ref a1), .val (.long (0 : Int64)), .second, .val (.int (0 : Int32))] []))
  have loop : ∀ (n i : Nat) (iv : Int32) (T : State) (lo : List Loc) (ce sl : Nat), Stand p l e ({ frames := 1, cells := 0, slots := 0, locals := 20 } : Room) s m #[(.ref a1)] below meth c T lo ce sl → T.heap = h0 → Fr n0 lo → ce ≤ 0 → sl ≤ 0 → iv.toInt = (i : Int) → i + n = 8 → ownFin p e below (ownFE s ({ frames := 1, cells := 0, slots := 0, locals := 20 } : Room).cells ({ frames := 1, cells := 0, slots := 0, locals := 20 } : Room).slots) (Q_own_int64 Z a1 h0 n0 b1 k_b1 z pos vs i0 lz bs) (T.setTop (mkF m 10 #[.val (.ref a1), .val (.long (own_num (bs.take i))), .second, .val (.int iv)] [])) := by
    intro n
    induction n with
    | zero =>
      intro i iv T lo ce sl X eT NL hce hsl hiv hin
      show ownFin _ _ _ _ _ (T.setTop (mkF m 10 #[.val (.ref a1), .val (.long (own_num (bs.take i))), .second, .val (.int iv)] []))
      refine ownVia (fun _ k => XS.iloadN X.here hx rfl (hb hby d5_10) rfl k) ?_
      show ownFin _ _ _ _ _ (T.setTop (mkF m 11 #[.val (.ref a1), .val (.long (own_num (bs.take i))), .second, .val (.int iv)] [(.int iv)]))
      refine ownVia (fun _ k => XS.bipush X.here hx rfl (hb hby d5_11) k) ?_
      show ownFin _ _ _ _ _ (T.setTop (mkF m 13 #[.val (.ref a1), .val (.long (own_num (bs.take i))), .second, .val (.int iv)] [(.int (8 : Int32)), (.int iv)]))
      refine ownVia (fun _ k => XS.icmpYes X.here hx rfl (pc0 := 13) (pc' := 44) rfl (hb hby d5_13) rfl (flt (own_nlt hiv (by decide : (8 : Int32).toInt = 8) (by omega))).2.1 (by decide) (by decide) k) ?_
      show ownFin _ _ _ _ _ (T.setTop (mkF m 44 #[.val (.ref a1), .val (.long (own_num (bs.take i))), .second, .val (.int iv)] []))
      refine ownVia (fun _ k => XS.aloadN X.here hx rfl (hb hby d5_44) rfl rfl k) ?_
      show ownFin _ _ _ _ _ (T.setTop (mkF m 45 #[.val (.ref a1), .val (.long (own_num (bs.take i))), .second, .val (.int iv)] [(.ref a1)]))
      refine ownVia (fun _ k => XS.dup X.here hx rfl (hb hby d5_45) rfl rfl k) ?_
      show ownFin _ _ _ _ _ (T.setTop (mkF m 46 #[.val (.ref a1), .val (.long (own_num (bs.take i))), .second, .val (.int iv)] [(.ref a1), (.ref a1)]))
      obtain ⟨T17, X17, e17, st17⟩ := getF X hx hZ hown (host := "") (Or.inl (hw _ (List.mem_of_getElem? (i := 21) rfl))) Via.refl eT F_a1_position (g := (mkF m 46 #[.val (.ref a1), .val (.long (own_num (bs.take i))), .second, .val (.int iv)] [(.ref a1), (.ref a1)])) rfl rfl (hb hby d5_46)
      refine ownVia st17 ?_
      show ownFin _ _ _ _ _ (T17.setTop (mkF m 49 #[.val (.ref a1), .val (.long (own_num (bs.take i))), .second, .val (.int iv)] [(.int pos), (.ref a1)]))
      refine ownVia (fun _ k => XS.bipush X17.here hx rfl (hb hby d5_49) k) ?_
      show ownFin _ _ _ _ _ (T17.setTop (mkF m 51 #[.val (.ref a1), .val (.long (own_num (bs.take i))), .second, .val (.int iv)] [(.int (8 : Int32)), (.int pos), (.ref a1)]))
      refine ownVia (fun _ k => XS.iadd X17.here hx rfl (hb hby d5_51) rfl k) ?_
      show ownFin _ _ _ _ _ (T17.setTop (mkF m 52 #[.val (.ref a1), .val (.long (own_num (bs.take i))), .second, .val (.int iv)] [(.int (pos + (8 : Int32))), (.ref a1)]))
      obtain ⟨T18, h18, X18, e18, W18, st18⟩ := putF X17 hx hZ hown (host := "") (Or.inl (hw _ (List.mem_of_getElem? (i := 21) rfl))) Via.refl e17 F_a1_position E_a1 (Or.inl (hw _ (List.mem_of_getElem? (i := 22) rfl))) (hw _ (List.mem_of_getElem? (i := 2) rfl)) (ty := .int) (by decide) rfl rfl (g := (mkF m 52 #[.val (.ref a1), .val (.long (own_num (bs.take i))), .second, .val (.int iv)] [(.int (pos + (8 : Int32))), (.ref a1)])) rfl rfl (hb hby d5_52)
      have N18 := Fr.snoc X18 NL ge_a1
      have F_a1_position := F_a1_position.same W18
      have F_a1_bytes := F_a1_bytes.other W18 (Or.inr (slot_ne (Or.inr (hw _ (List.mem_of_getElem? (i := 11) rfl))) (Or.inl (hw _ (List.mem_of_getElem? (i := 22) rfl))) (by decide) (t := (.array .byte)) (t' := .int) (by decide) (by decide)))
      have E_a1 := E_a1.wr W18
      have A_b1 := A_b1.other W18 (Ne.symm ne_a1_b1)
      have K0 := K0.wr W18 (Or.inl (List.mem_of_getElem? (i := 0) rfl))
      have Z0 := own_szW Z0 W18
      refine ownVia st18 ?_
      show ownFin _ _ _ _ _ (T18.setTop (mkF m 55 #[.val (.ref a1), .val (.long (own_num (bs.take i))), .second, .val (.int iv)] []))
      refine ownVia (fun _ k => XS.lloadN X18.here hx rfl (hb hby d5_55) rfl k) ?_
      show ownFin _ _ _ _ _ (T18.setTop (mkF m 56 #[.val (.ref a1), .val (.long (own_num (bs.take i))), .second, .val (.int iv)] [(.long (own_num (bs.take i)))]))
      have hi : i = bs.length := by omega
      refine ownRetJ X18 hx hlk hret (hb hby d5_56) (Nat.le_trans hce (by decide)) (Nat.le_trans hsl (by decide)) ?_
      show (Q_own_int64 Z a1 h0 n0 b1 k_b1 z pos vs i0 lz bs) (some (.long (own_num (bs.take i)))) T18.heap _
      rw [e18]
      exact ⟨by rw [hi, List.take_length], N18, K0, F_a1_bytes, F_a1_position⟩
    | succ n ih =>
      intro i iv T lo ce sl X eT NL hce hsl hiv hin
      show ownFin _ _ _ _ _ (T.setTop (mkF m 10 #[.val (.ref a1), .val (.long (own_num (bs.take i))), .second, .val (.int iv)] []))
      refine ownVia (fun _ k => XS.iloadN X.here hx rfl (hb hby d5_10) rfl k) ?_
      show ownFin _ _ _ _ _ (T.setTop (mkF m 11 #[.val (.ref a1), .val (.long (own_num (bs.take i))), .second, .val (.int iv)] [(.int iv)]))
      refine ownVia (fun _ k => XS.bipush X.here hx rfl (hb hby d5_11) k) ?_
      show ownFin _ _ _ _ _ (T.setTop (mkF m 13 #[.val (.ref a1), .val (.long (own_num (bs.take i))), .second, .val (.int iv)] [(.int (8 : Int32)), (.int iv)]))
      refine ownVia (fun _ k => XS.icmpNo X.here hx rfl (hb hby d5_13) rfl (tlt ((own_lti hiv (by decide : (8 : Int32).toInt = 8)).mpr (by omega))).2.1 k) ?_
      show ownFin _ _ _ _ _ (T.setTop (mkF m 16 #[.val (.ref a1), .val (.long (own_num (bs.take i))), .second, .val (.int iv)] []))
      refine ownVia (fun _ k => XS.lloadN X.here hx rfl (hb hby d5_16) rfl k) ?_
      show ownFin _ _ _ _ _ (T.setTop (mkF m 17 #[.val (.ref a1), .val (.long (own_num (bs.take i))), .second, .val (.int iv)] [(.long (own_num (bs.take i)))]))
      refine ownVia (fun _ k => XS.bipush X.here hx rfl (hb hby d5_17) k) ?_
      show ownFin _ _ _ _ _ (T.setTop (mkF m 19 #[.val (.ref a1), .val (.long (own_num (bs.take i))), .second, .val (.int iv)] [(.int (8 : Int32)), (.long (own_num (bs.take i)))]))
      refine ownVia (fun _ k => XS.lshl X.here hx rfl (hb hby d5_19) rfl k) ?_
      show ownFin _ _ _ _ _ (T.setTop (mkF m 20 #[.val (.ref a1), .val (.long (own_num (bs.take i))), .second, .val (.int iv)] [(.long ((own_num (bs.take i)) <<< ((8 : Int32) &&& 0x3f).toInt64))]))
      refine ownVia (fun _ k => XS.aloadN X.here hx rfl (hb hby d5_20) rfl rfl k) ?_
      show ownFin _ _ _ _ _ (T.setTop (mkF m 21 #[.val (.ref a1), .val (.long (own_num (bs.take i))), .second, .val (.int iv)] [(.ref a1), (.long ((own_num (bs.take i)) <<< ((8 : Int32) &&& 0x3f).toInt64))]))
      obtain ⟨T19, X19, e19, st19⟩ := getF X hx hZ hown (host := "") (Or.inl (hw _ (List.mem_of_getElem? (i := 10) rfl))) Via.refl eT F_a1_bytes (g := (mkF m 21 #[.val (.ref a1), .val (.long (own_num (bs.take i))), .second, .val (.int iv)] [(.ref a1), (.long ((own_num (bs.take i)) <<< ((8 : Int32) &&& 0x3f).toInt64))])) rfl rfl (hb hby d5_21)
      refine ownVia st19 ?_
      show ownFin _ _ _ _ _ (T19.setTop (mkF m 24 #[.val (.ref a1), .val (.long (own_num (bs.take i))), .second, .val (.int iv)] [(.ref b1), (.long ((own_num (bs.take i)) <<< ((8 : Int32) &&& 0x3f).toInt64))]))
      refine ownVia (fun _ k => XS.aloadN X19.here hx rfl (hb hby d5_24) rfl rfl k) ?_
      show ownFin _ _ _ _ _ (T19.setTop (mkF m 25 #[.val (.ref a1), .val (.long (own_num (bs.take i))), .second, .val (.int iv)] [(.ref a1), (.ref b1), (.long ((own_num (bs.take i)) <<< ((8 : Int32) &&& 0x3f).toInt64))]))
      obtain ⟨T20, X20, e20, st20⟩ := getF X19 hx hZ hown (host := "") (Or.inl (hw _ (List.mem_of_getElem? (i := 21) rfl))) Via.refl e19 F_a1_position (g := (mkF m 25 #[.val (.ref a1), .val (.long (own_num (bs.take i))), .second, .val (.int iv)] [(.ref a1), (.ref b1), (.long ((own_num (bs.take i)) <<< ((8 : Int32) &&& 0x3f).toInt64))])) rfl rfl (hb hby d5_25)
      refine ownVia st20 ?_
      show ownFin _ _ _ _ _ (T20.setTop (mkF m 28 #[.val (.ref a1), .val (.long (own_num (bs.take i))), .second, .val (.int iv)] [(.int pos), (.ref b1), (.long ((own_num (bs.take i)) <<< ((8 : Int32) &&& 0x3f).toInt64))]))
      refine ownVia (fun _ k => XS.iloadN X20.here hx rfl (hb hby d5_28) rfl k) ?_
      show ownFin _ _ _ _ _ (T20.setTop (mkF m 29 #[.val (.ref a1), .val (.long (own_num (bs.take i))), .second, .val (.int iv)] [(.int iv), (.int pos), (.ref b1), (.long ((own_num (bs.take i)) <<< ((8 : Int32) &&& 0x3f).toInt64))]))
      refine ownVia (fun _ k => XS.iadd X20.here hx rfl (hb hby d5_29) rfl k) ?_
      show ownFin _ _ _ _ _ (T20.setTop (mkF m 30 #[.val (.ref a1), .val (.long (own_num (bs.take i))), .second, .val (.int iv)] [(.int (pos + iv)), (.ref b1), (.long ((own_num (bs.take i)) <<< ((8 : Int32) &&& 0x3f).toInt64))]))
      have hidx := own_add hp hiv (by omega)
      refine ownBaload X20 hx hZ e20 A_b1 (own_idx hz (by omega) (by omega)) (v := (.int (bs.getD i 0))) (by rw [own_clamp hidx]; exact hat i (by omega)) (hb hby d5_30) ?_
      show ownFin _ _ _ _ _ (T20.setTop (mkF m 31 #[.val (.ref a1), .val (.long (own_num (bs.take i))), .second, .val (.int iv)] [(.int (bs.getD i 0)), (.long ((own_num (bs.take i)) <<< ((8 : Int32) &&& 0x3f).toInt64))]))
      refine ownVia (fun _ k => XS.sipush X20.here hx rfl (hb hby d5_31) k) ?_
      show ownFin _ _ _ _ _ (T20.setTop (mkF m 34 #[.val (.ref a1), .val (.long (own_num (bs.take i))), .second, .val (.int iv)] [(.int (255 : Int32)), (.int (bs.getD i 0)), (.long ((own_num (bs.take i)) <<< ((8 : Int32) &&& 0x3f).toInt64))]))
      refine ownVia (fun _ k => XS.iand X20.here hx rfl (hb hby d5_34) rfl k) ?_
      show ownFin _ _ _ _ _ (T20.setTop (mkF m 35 #[.val (.ref a1), .val (.long (own_num (bs.take i))), .second, .val (.int iv)] [(.int ((bs.getD i 0) &&& (255 : Int32))), (.long ((own_num (bs.take i)) <<< ((8 : Int32) &&& 0x3f).toInt64))]))
      refine ownVia (fun _ k => XS.i2l X20.here hx rfl (hb hby d5_35) rfl k) ?_
      show ownFin _ _ _ _ _ (T20.setTop (mkF m 36 #[.val (.ref a1), .val (.long (own_num (bs.take i))), .second, .val (.int iv)] [(.long (((bs.getD i 0) &&& (255 : Int32)).toInt64)), (.long ((own_num (bs.take i)) <<< ((8 : Int32) &&& 0x3f).toInt64))]))
      refine ownVia (fun _ k => XS.lor X20.here hx rfl (hb hby d5_36) rfl k) ?_
      show ownFin _ _ _ _ _ (T20.setTop (mkF m 37 #[.val (.ref a1), .val (.long (own_num (bs.take i))), .second, .val (.int iv)] [(.long (((own_num (bs.take i)) <<< ((8 : Int32) &&& 0x3f).toInt64) ||| (((bs.getD i 0) &&& (255 : Int32)).toInt64)))]))
      refine ownVia (fun _ k => XS.lstoreN X20.here hx rfl (hb hby d5_37) rfl (l' := #[.val (.ref a1), .val (.long (((own_num (bs.take i)) <<< ((8 : Int32) &&& 0x3f).toInt64) ||| (((bs.getD i 0) &&& (255 : Int32)).toInt64))), .second, .val (.int iv)]) rfl k) ?_
      show ownFin _ _ _ _ _ (T20.setTop (mkF m 38 #[.val (.ref a1), .val (.long (((own_num (bs.take i)) <<< ((8 : Int32) &&& 0x3f).toInt64) ||| (((bs.getD i 0) &&& (255 : Int32)).toInt64))), .second, .val (.int iv)] []))
      refine ownVia (fun _ k => XS.iinc X20.here hx rfl (hb hby d5_38) rfl (l' := #[.val (.ref a1), .val (.long (((own_num (bs.take i)) <<< ((8 : Int32) &&& 0x3f).toInt64) ||| (((bs.getD i 0) &&& (255 : Int32)).toInt64))), .second, .val (.int (iv + (1 : Int32)))]) rfl k) ?_
      show ownFin _ _ _ _ _ (T20.setTop (mkF m 41 #[.val (.ref a1), .val (.long (((own_num (bs.take i)) <<< ((8 : Int32) &&& 0x3f).toInt64) ||| (((bs.getD i 0) &&& (255 : Int32)).toInt64))), .second, .val (.int (iv + (1 : Int32)))] []))
      refine ownVia (fun _ k => XS.goto X20.here hx rfl (pc0 := 41) (pc' := 10) rfl (hb hby d5_41) (by decide) (by decide) k) ?_
      show ownFin _ _ _ _ _ (T20.setTop (mkF m 10 #[.val (.ref a1), .val (.long (((own_num (bs.take i)) <<< ((8 : Int32) &&& 0x3f).toInt64) ||| (((bs.getD i 0) &&& (255 : Int32)).toInt64))), .second, .val (.int (iv + (1 : Int32)))] []))
      have hacc : (((own_num (bs.take i)) <<< ((8 : Int32) &&& 0x3f).toInt64) ||| (((bs.getD i 0) &&& (255 : Int32)).toInt64)) = own_num (bs.take (i + 1)) := (own_num_succ (by omega)).symm
      rw [hacc]
      exact ih (i + 1) (iv + 1) _ _ _ _ X20 e20 NL hce hsl (own_add hiv (by decide : (1 : Int32).toInt = ((1 : Nat) : Int)) (by omega)) (by omega)
  exact loop 8 0 0 _ _ _ _ X16 e16 N16 (by decide) (by decide) (by decide) (by omega)
theorem own_pn1 : plainName "com/example/laiskas/laiskas/protocol/DecoderInt64PinLaw" = true := by first | (simp [plainName, overriddenIn]; done) | decide +kernel
theorem own_ef21 (m : MethodId) (q1 : Int64) (p1 : Int32) (p2 : Int32) : entryFrame m #[(.long q1), (.int p1), (.int p2)] maxLocals = mkF m 0 #[.val (.long q1), .second, .val (.int p1), .val (.int p2), .unset, .unset, .unset, .unset, .unset] [] := by first | (simp [entryFrame, mkF, argsToLocals, Value.category, maxLocals]; done) | rfl
def Q_own_law (Z : State) (q1 : Int64) (p1 : Int32) (p2 : Int32) (h0 : Heap) (n0 : Nat)  : Option Value → Heap → List Loc → Prop := fun v h L => v = some (.int 1) ∧ Fr n0 L
theorem own_pd1 : parseMethodDescriptor "([B)V" = some ⟨[(.array .byte)], none⟩ := by decide +kernel
theorem own_pd2 : parseMethodDescriptor "()J" = some ⟨[], some .long⟩ := by decide +kernel
theorem own_pd3 : parseMethodDescriptor "()Z" = some ⟨[], some .boolean⟩ := by decide +kernel
set_option maxRecDepth 65536 in
set_option maxHeartbeats 40000000 in
theorem own_law (l : Launch) (Z : State) (a0 : Array Value) (hw : ∀ d ∈ tables_1, d.before a0 Z = true) (ws : List Jvm.Cond) (q1 : Int64) (p1 : Int32) (p2 : Int32) (h0 : Heap) (n0 : Nat)  (Z0 : n0 ≤ h0.size)  :
    ownMet l Z x code maxLocals ret ws room_1 #[(.long q1), (.int p1), (.int p2)] h0 (Q_own_law Z q1 p1 p2 h0 n0 ) := by
  refine ownBody (plainFor_of_name own_pn1) ?_
  intro p e s m below meth c T0 hx hby hml hret hlk hZ hown hnm X0 e0
  have N0 : Fr n0 [] := Fr.nil n0
  have hown : s.vm.findClass "com/example/laiskas/laiskas/protocol/DecoderInt64PinLaw" = some m.cls := hown
  refine ownVia (fun _ k => castTop (own_ef21 m q1 p1 p2) k) ?_
  show ownFin _ _ _ _ _ (T0.setTop (mkF m 0 #[.val (.long q1), .second, .val (.int p1), .val (.int p2), .unset, .unset, .unset, .unset, .unset] []))
  have hkv := own_kv p1
  refine ownVia (fun _ k => XS.iloadN X0.here hx rfl (hb hby at_0) rfl k) ?_
  show ownFin _ _ _ _ _ (T0.setTop (mkF m 1 #[.val (.long q1), .second, .val (.int p1), .val (.int p2), .unset, .unset, .unset, .unset, .unset] [(.int p1)]))
  refine ownVia (fun _ k => XS.iconst X0.here hx rfl (hb hby at_1) k) ?_
  show ownFin _ _ _ _ _ (T0.setTop (mkF m 2 #[.val (.long q1), .second, .val (.int p1), .val (.int p2), .unset, .unset, .unset, .unset, .unset] [(.int (3 : Int32)), (.int p1)]))
  refine ownVia (fun _ k => XS.iand X0.here hx rfl (hb hby at_2) rfl k) ?_
  show ownFin _ _ _ _ _ (T0.setTop (mkF m 3 #[.val (.long q1), .second, .val (.int p1), .val (.int p2), .unset, .unset, .unset, .unset, .unset] [(.int (p1 &&& (3 : Int32)))]))
  refine ownVia (fun _ k => XS.istore X0.here hx rfl (hb hby at_3) rfl (l' := #[.val (.long q1), .second, .val (.int p1), .val (.int p2), .val (.int (p1 &&& (3 : Int32))), .unset, .unset, .unset, .unset]) rfl k) ?_
  show ownFin _ _ _ _ _ (T0.setTop (mkF m 5 #[.val (.long q1), .second, .val (.int p1), .val (.int p2), .val (.int (p1 &&& (3 : Int32))), .unset, .unset, .unset, .unset] []))
  refine ownVia (fun _ k => XS.bipush X0.here hx rfl (hb hby at_5) k) ?_
  show ownFin _ _ _ _ _ (T0.setTop (mkF m 7 #[.val (.long q1), .second, .val (.int p1), .val (.int p2), .val (.int (p1 &&& (3 : Int32))), .unset, .unset, .unset, .unset] [(.int (11 : Int32))]))
  generalize h_kv : (p1 &&& (3 : Int32)) = kv
  show ownFin _ _ _ _ _ (T0.setTop (mkF m 7 #[.val (.long q1), .second, .val (.int p1), .val (.int p2), .val (.int kv), .unset, .unset, .unset, .unset] [(.int (11 : Int32))]))
  rw [h_kv] at hkv
  obtain ⟨k, hk⟩ : ∃ k : Nat, kv.toInt = (k : Int) := ⟨kv.toInt.toNat, by omega⟩
  have hk3 : k ≤ 3 := by omega
  refine ownNewP X0 hx hZ (hw _ (List.mem_of_getElem? (i := 0) rfl)) e0 "[B" (by decide) (by decide) (11) (by decide) (11) (by decide) (by decide) (by decide) (by decide) (hb hby at_7) ?_
  intro T22 h22 k_b1 b1 g22 X22 e22 E22 A_b1 E_b1
  have ge_b1 : n0 ≤ b1 := Nat.le_trans Z0 (Nat.le_of_eq g22.symm)
  have Z0 := own_sz Z0 E22
  have A_b1 : Arv Z h22 b1 k_b1 .byte (11 : Int32) [(.int (0 : Int32)), (.int (0 : Int32)), (.int (0 : Int32)), (.int (0 : Int32)), (.int (0 : Int32)), (.int (0 : Int32)), (.int (0 : Int32)), (.int (0 : Int32)), (.int (0 : Int32)), (.int (0 : Int32)), (.int (0 : Int32))] (.int (0 : Int32)) := A_b1
  show ownFin _ _ _ _ _ (T22.setTop (mkF m 9 #[.val (.long q1), .second, .val (.int p1), .val (.int p2), .val (.int kv), .unset, .unset, .unset, .unset] [(.ref b1)]))
  refine ownVia (fun _ k => XS.astore X22.here hx rfl (hb hby at_9) rfl rfl (l' := #[.val (.long q1), .second, .val (.int p1), .val (.int p2), .val (.int kv), .val (.ref b1), .unset, .unset, .unset]) rfl k) ?_
  show ownFin _ _ _ _ _ (T22.setTop (mkF m 11 #[.val (.long q1), .second, .val (.int p1), .val (.int p2), .val (.int kv), .val (.ref b1), .unset, .unset, .unset] []))
  refine ownVia (fun _ k => XS.aload X22.here hx rfl (hb hby at_11) rfl rfl k) ?_
  show ownFin _ _ _ _ _ (T22.setTop (mkF m 13 #[.val (.long q1), .second, .val (.int p1), .val (.int p2), .val (.int kv), .val (.ref b1), .unset, .unset, .unset] [(.ref b1)]))
  refine ownVia (fun _ k => XS.iconst X22.here hx rfl (hb hby at_13) k) ?_
  show ownFin _ _ _ _ _ (T22.setTop (mkF m 14 #[.val (.long q1), .second, .val (.int p1), .val (.int p2), .val (.int kv), .val (.ref b1), .unset, .unset, .unset] [(.int (0 : Int32)), (.ref b1)]))
  refine ownVia (fun _ k => XS.iloadN X22.here hx rfl (hb hby at_14) rfl k) ?_
  show ownFin _ _ _ _ _ (T22.setTop (mkF m 15 #[.val (.long q1), .second, .val (.int p1), .val (.int p2), .val (.int kv), .val (.ref b1), .unset, .unset, .unset] [(.int p2), (.int (0 : Int32)), (.ref b1)]))
  refine ownVia (fun _ k => XS.i2b X22.here hx rfl (hb hby at_15) rfl k) ?_
  show ownFin _ _ _ _ _ (T22.setTop (mkF m 16 #[.val (.long q1), .second, .val (.int p1), .val (.int p2), .val (.int kv), .val (.ref b1), .unset, .unset, .unset] [(.int (p2.toInt8.toInt32)), (.int (0 : Int32)), (.ref b1)]))
  refine ownBastore X22 hx hZ e22 A_b1 ⟨by decide, by decide⟩ (0) (by decide) (Nat.le_of_ble_eq_true rfl) N0 ge_b1 (hb hby at_16) ?_
  intro T23 h23 L23 X23 e23 N23 W23 A_b1
  have E_b1 := E_b1.wr W23
  have Z0 := own_szW Z0 W23
  have A_b1 : Arv Z h23 b1 k_b1 .byte (11 : Int32) [(.int (nar .byte (p2.toInt8.toInt32))), (.int (0 : Int32)), (.int (0 : Int32)), (.int (0 : Int32)), (.int (0 : Int32)), (.int (0 : Int32)), (.int (0 : Int32)), (.int (0 : Int32)), (.int (0 : Int32)), (.int (0 : Int32)), (.int (0 : Int32))] (.int (0 : Int32)) := A_b1
  show ownFin _ _ _ _ _ (T23.setTop (mkF m 17 #[.val (.long q1), .second, .val (.int p1), .val (.int p2), .val (.int kv), .val (.ref b1), .unset, .unset, .unset] []))
  refine ownVia (fun _ k => XS.aload X23.here hx rfl (hb hby at_17) rfl rfl k) ?_
  show ownFin _ _ _ _ _ (T23.setTop (mkF m 19 #[.val (.long q1), .second, .val (.int p1), .val (.int p2), .val (.int kv), .val (.ref b1), .unset, .unset, .unset] [(.ref b1)]))
  refine ownVia (fun _ k => XS.iconst X23.here hx rfl (hb hby at_19) k) ?_
  show ownFin _ _ _ _ _ (T23.setTop (mkF m 20 #[.val (.long q1), .second, .val (.int p1), .val (.int p2), .val (.int kv), .val (.ref b1), .unset, .unset, .unset] [(.int (1 : Int32)), (.ref b1)]))
  refine ownVia (fun _ k => XS.iloadN X23.here hx rfl (hb hby at_20) rfl k) ?_
  show ownFin _ _ _ _ _ (T23.setTop (mkF m 21 #[.val (.long q1), .second, .val (.int p1), .val (.int p2), .val (.int kv), .val (.ref b1), .unset, .unset, .unset] [(.int p2), (.int (1 : Int32)), (.ref b1)]))
  refine ownVia (fun _ k => XS.bipush X23.here hx rfl (hb hby at_21) k) ?_
  show ownFin _ _ _ _ _ (T23.setTop (mkF m 23 #[.val (.long q1), .second, .val (.int p1), .val (.int p2), .val (.int kv), .val (.ref b1), .unset, .unset, .unset] [(.int (8 : Int32)), (.int p2), (.int (1 : Int32)), (.ref b1)]))
  refine ownVia (fun _ k => XS.iushr X23.here hx rfl (hb hby at_23) rfl k) ?_
  show ownFin _ _ _ _ _ (T23.setTop (mkF m 24 #[.val (.long q1), .second, .val (.int p1), .val (.int p2), .val (.int kv), .val (.ref b1), .unset, .unset, .unset] [(.int ((p2.toUInt32 >>> ((8 : Int32) &&& 31).toUInt32).toInt32)), (.int (1 : Int32)), (.ref b1)]))
  refine ownVia (fun _ k => XS.i2b X23.here hx rfl (hb hby at_24) rfl k) ?_
  show ownFin _ _ _ _ _ (T23.setTop (mkF m 25 #[.val (.long q1), .second, .val (.int p1), .val (.int p2), .val (.int kv), .val (.ref b1), .unset, .unset, .unset] [(.int (((p2.toUInt32 >>> ((8 : Int32) &&& 31).toUInt32).toInt32).toInt8.toInt32)), (.int (1 : Int32)), (.ref b1)]))
  refine ownBastore X23 hx hZ e23 A_b1 ⟨by decide, by decide⟩ (1) (by decide) (Nat.le_of_ble_eq_true rfl) N23 ge_b1 (hb hby at_25) ?_
  intro T24 h24 L24 X24 e24 N24 W24 A_b1
  have E_b1 := E_b1.wr W24
  have Z0 := own_szW Z0 W24
  have A_b1 : Arv Z h24 b1 k_b1 .byte (11 : Int32) [(.int (nar .byte (p2.toInt8.toInt32))), (.int (nar .byte (((p2.toUInt32 >>> ((8 : Int32) &&& 31).toUInt32).toInt32).toInt8.toInt32))), (.int (0 : Int32)), (.int (0 : Int32)), (.int (0 : Int32)), (.int (0 : Int32)), (.int (0 : Int32)), (.int (0 : Int32)), (.int (0 : Int32)), (.int (0 : Int32)), (.int (0 : Int32))] (.int (0 : Int32)) := A_b1
  show ownFin _ _ _ _ _ (T24.setTop (mkF m 26 #[.val (.long q1), .second, .val (.int p1), .val (.int p2), .val (.int kv), .val (.ref b1), .unset, .unset, .unset] []))
  refine ownVia (fun _ k => XS.aload X24.here hx rfl (hb hby at_26) rfl rfl k) ?_
  show ownFin _ _ _ _ _ (T24.setTop (mkF m 28 #[.val (.long q1), .second, .val (.int p1), .val (.int p2), .val (.int kv), .val (.ref b1), .unset, .unset, .unset] [(.ref b1)]))
  refine ownVia (fun _ k => XS.iconst X24.here hx rfl (hb hby at_28) k) ?_
  show ownFin _ _ _ _ _ (T24.setTop (mkF m 29 #[.val (.long q1), .second, .val (.int p1), .val (.int p2), .val (.int kv), .val (.ref b1), .unset, .unset, .unset] [(.int (2 : Int32)), (.ref b1)]))
  refine ownVia (fun _ k => XS.iloadN X24.here hx rfl (hb hby at_29) rfl k) ?_
  show ownFin _ _ _ _ _ (T24.setTop (mkF m 30 #[.val (.long q1), .second, .val (.int p1), .val (.int p2), .val (.int kv), .val (.ref b1), .unset, .unset, .unset] [(.int p2), (.int (2 : Int32)), (.ref b1)]))
  refine ownVia (fun _ k => XS.bipush X24.here hx rfl (hb hby at_30) k) ?_
  show ownFin _ _ _ _ _ (T24.setTop (mkF m 32 #[.val (.long q1), .second, .val (.int p1), .val (.int p2), .val (.int kv), .val (.ref b1), .unset, .unset, .unset] [(.int (16 : Int32)), (.int p2), (.int (2 : Int32)), (.ref b1)]))
  refine ownVia (fun _ k => XS.iushr X24.here hx rfl (hb hby at_32) rfl k) ?_
  show ownFin _ _ _ _ _ (T24.setTop (mkF m 33 #[.val (.long q1), .second, .val (.int p1), .val (.int p2), .val (.int kv), .val (.ref b1), .unset, .unset, .unset] [(.int ((p2.toUInt32 >>> ((16 : Int32) &&& 31).toUInt32).toInt32)), (.int (2 : Int32)), (.ref b1)]))
  refine ownVia (fun _ k => XS.i2b X24.here hx rfl (hb hby at_33) rfl k) ?_
  show ownFin _ _ _ _ _ (T24.setTop (mkF m 34 #[.val (.long q1), .second, .val (.int p1), .val (.int p2), .val (.int kv), .val (.ref b1), .unset, .unset, .unset] [(.int (((p2.toUInt32 >>> ((16 : Int32) &&& 31).toUInt32).toInt32).toInt8.toInt32)), (.int (2 : Int32)), (.ref b1)]))
  refine ownBastore X24 hx hZ e24 A_b1 ⟨by decide, by decide⟩ (2) (by decide) (Nat.le_of_ble_eq_true rfl) N24 ge_b1 (hb hby at_34) ?_
  intro T25 h25 L25 X25 e25 N25 W25 A_b1
  have E_b1 := E_b1.wr W25
  have Z0 := own_szW Z0 W25
  have A_b1 : Arv Z h25 b1 k_b1 .byte (11 : Int32) [(.int (nar .byte (p2.toInt8.toInt32))), (.int (nar .byte (((p2.toUInt32 >>> ((8 : Int32) &&& 31).toUInt32).toInt32).toInt8.toInt32))), (.int (nar .byte (((p2.toUInt32 >>> ((16 : Int32) &&& 31).toUInt32).toInt32).toInt8.toInt32))), (.int (0 : Int32)), (.int (0 : Int32)), (.int (0 : Int32)), (.int (0 : Int32)), (.int (0 : Int32)), (.int (0 : Int32)), (.int (0 : Int32)), (.int (0 : Int32))] (.int (0 : Int32)) := A_b1
  show ownFin _ _ _ _ _ (T25.setTop (mkF m 35 #[.val (.long q1), .second, .val (.int p1), .val (.int p2), .val (.int kv), .val (.ref b1), .unset, .unset, .unset] []))
  refine ownVia (fun _ k => XS.aload X25.here hx rfl (hb hby at_35) rfl rfl k) ?_
  show ownFin _ _ _ _ _ (T25.setTop (mkF m 37 #[.val (.long q1), .second, .val (.int p1), .val (.int p2), .val (.int kv), .val (.ref b1), .unset, .unset, .unset] [(.ref b1)]))
  refine ownVia (fun _ k => XS.iconst X25.here hx rfl (hb hby at_37) k) ?_
  show ownFin _ _ _ _ _ (T25.setTop (mkF m 38 #[.val (.long q1), .second, .val (.int p1), .val (.int p2), .val (.int kv), .val (.ref b1), .unset, .unset, .unset] [(.int (3 : Int32)), (.ref b1)]))
  refine ownVia (fun _ k => XS.iloadN X25.here hx rfl (hb hby at_38) rfl k) ?_
  show ownFin _ _ _ _ _ (T25.setTop (mkF m 39 #[.val (.long q1), .second, .val (.int p1), .val (.int p2), .val (.int kv), .val (.ref b1), .unset, .unset, .unset] [(.int p2), (.int (3 : Int32)), (.ref b1)]))
  refine ownVia (fun _ k => XS.bipush X25.here hx rfl (hb hby at_39) k) ?_
  show ownFin _ _ _ _ _ (T25.setTop (mkF m 41 #[.val (.long q1), .second, .val (.int p1), .val (.int p2), .val (.int kv), .val (.ref b1), .unset, .unset, .unset] [(.int (24 : Int32)), (.int p2), (.int (3 : Int32)), (.ref b1)]))
  refine ownVia (fun _ k => XS.iushr X25.here hx rfl (hb hby at_41) rfl k) ?_
  show ownFin _ _ _ _ _ (T25.setTop (mkF m 42 #[.val (.long q1), .second, .val (.int p1), .val (.int p2), .val (.int kv), .val (.ref b1), .unset, .unset, .unset] [(.int ((p2.toUInt32 >>> ((24 : Int32) &&& 31).toUInt32).toInt32)), (.int (3 : Int32)), (.ref b1)]))
  refine ownVia (fun _ k => XS.i2b X25.here hx rfl (hb hby at_42) rfl k) ?_
  show ownFin _ _ _ _ _ (T25.setTop (mkF m 43 #[.val (.long q1), .second, .val (.int p1), .val (.int p2), .val (.int kv), .val (.ref b1), .unset, .unset, .unset] [(.int (((p2.toUInt32 >>> ((24 : Int32) &&& 31).toUInt32).toInt32).toInt8.toInt32)), (.int (3 : Int32)), (.ref b1)]))
  refine ownBastore X25 hx hZ e25 A_b1 ⟨by decide, by decide⟩ (3) (by decide) (Nat.le_of_ble_eq_true rfl) N25 ge_b1 (hb hby at_43) ?_
  intro T26 h26 L26 X26 e26 N26 W26 A_b1
  have E_b1 := E_b1.wr W26
  have Z0 := own_szW Z0 W26
  have A_b1 : Arv Z h26 b1 k_b1 .byte (11 : Int32) [(.int (nar .byte (p2.toInt8.toInt32))), (.int (nar .byte (((p2.toUInt32 >>> ((8 : Int32) &&& 31).toUInt32).toInt32).toInt8.toInt32))), (.int (nar .byte (((p2.toUInt32 >>> ((16 : Int32) &&& 31).toUInt32).toInt32).toInt8.toInt32))), (.int (nar .byte (((p2.toUInt32 >>> ((24 : Int32) &&& 31).toUInt32).toInt32).toInt8.toInt32))), (.int (0 : Int32)), (.int (0 : Int32)), (.int (0 : Int32)), (.int (0 : Int32)), (.int (0 : Int32)), (.int (0 : Int32)), (.int (0 : Int32))] (.int (0 : Int32)) := A_b1
  show ownFin _ _ _ _ _ (T26.setTop (mkF m 44 #[.val (.long q1), .second, .val (.int p1), .val (.int p2), .val (.int kv), .val (.ref b1), .unset, .unset, .unset] []))
  refine ownVia (fun _ k => XS.aload X26.here hx rfl (hb hby at_44) rfl rfl k) ?_
  show ownFin _ _ _ _ _ (T26.setTop (mkF m 46 #[.val (.long q1), .second, .val (.int p1), .val (.int p2), .val (.int kv), .val (.ref b1), .unset, .unset, .unset] [(.ref b1)]))
  refine ownVia (fun _ k => XS.iconst X26.here hx rfl (hb hby at_46) k) ?_
  show ownFin _ _ _ _ _ (T26.setTop (mkF m 47 #[.val (.long q1), .second, .val (.int p1), .val (.int p2), .val (.int kv), .val (.ref b1), .unset, .unset, .unset] [(.int (4 : Int32)), (.ref b1)]))
  refine ownVia (fun _ k => XS.iloadN X26.here hx rfl (hb hby at_47) rfl k) ?_
  show ownFin _ _ _ _ _ (T26.setTop (mkF m 48 #[.val (.long q1), .second, .val (.int p1), .val (.int p2), .val (.int kv), .val (.ref b1), .unset, .unset, .unset] [(.int p2), (.int (4 : Int32)), (.ref b1)]))
  refine ownVia (fun _ k => XS.iconst X26.here hx rfl (hb hby at_48) k) ?_
  show ownFin _ _ _ _ _ (T26.setTop (mkF m 49 #[.val (.long q1), .second, .val (.int p1), .val (.int p2), .val (.int kv), .val (.ref b1), .unset, .unset, .unset] [(.int (-1 : Int32)), (.int p2), (.int (4 : Int32)), (.ref b1)]))
  refine ownVia (fun _ k => XS.ixor X26.here hx rfl (hb hby at_49) rfl k) ?_
  show ownFin _ _ _ _ _ (T26.setTop (mkF m 50 #[.val (.long q1), .second, .val (.int p1), .val (.int p2), .val (.int kv), .val (.ref b1), .unset, .unset, .unset] [(.int (p2 ^^^ (-1 : Int32))), (.int (4 : Int32)), (.ref b1)]))
  refine ownVia (fun _ k => XS.i2b X26.here hx rfl (hb hby at_50) rfl k) ?_
  show ownFin _ _ _ _ _ (T26.setTop (mkF m 51 #[.val (.long q1), .second, .val (.int p1), .val (.int p2), .val (.int kv), .val (.ref b1), .unset, .unset, .unset] [(.int ((p2 ^^^ (-1 : Int32)).toInt8.toInt32)), (.int (4 : Int32)), (.ref b1)]))
  refine ownBastore X26 hx hZ e26 A_b1 ⟨by decide, by decide⟩ (4) (by decide) (Nat.le_of_ble_eq_true rfl) N26 ge_b1 (hb hby at_51) ?_
  intro T27 h27 L27 X27 e27 N27 W27 A_b1
  have E_b1 := E_b1.wr W27
  have Z0 := own_szW Z0 W27
  have A_b1 : Arv Z h27 b1 k_b1 .byte (11 : Int32) [(.int (nar .byte (p2.toInt8.toInt32))), (.int (nar .byte (((p2.toUInt32 >>> ((8 : Int32) &&& 31).toUInt32).toInt32).toInt8.toInt32))), (.int (nar .byte (((p2.toUInt32 >>> ((16 : Int32) &&& 31).toUInt32).toInt32).toInt8.toInt32))), (.int (nar .byte (((p2.toUInt32 >>> ((24 : Int32) &&& 31).toUInt32).toInt32).toInt8.toInt32))), (.int (nar .byte ((p2 ^^^ (-1 : Int32)).toInt8.toInt32))), (.int (0 : Int32)), (.int (0 : Int32)), (.int (0 : Int32)), (.int (0 : Int32)), (.int (0 : Int32)), (.int (0 : Int32))] (.int (0 : Int32)) := A_b1
  show ownFin _ _ _ _ _ (T27.setTop (mkF m 52 #[.val (.long q1), .second, .val (.int p1), .val (.int p2), .val (.int kv), .val (.ref b1), .unset, .unset, .unset] []))
  refine ownVia (fun _ k => XS.aload X27.here hx rfl (hb hby at_52) rfl rfl k) ?_
  show ownFin _ _ _ _ _ (T27.setTop (mkF m 54 #[.val (.long q1), .second, .val (.int p1), .val (.int p2), .val (.int kv), .val (.ref b1), .unset, .unset, .unset] [(.ref b1)]))
  refine ownVia (fun _ k => XS.iconst X27.here hx rfl (hb hby at_54) k) ?_
  show ownFin _ _ _ _ _ (T27.setTop (mkF m 55 #[.val (.long q1), .second, .val (.int p1), .val (.int p2), .val (.int kv), .val (.ref b1), .unset, .unset, .unset] [(.int (5 : Int32)), (.ref b1)]))
  refine ownVia (fun _ k => XS.iloadN X27.here hx rfl (hb hby at_55) rfl k) ?_
  show ownFin _ _ _ _ _ (T27.setTop (mkF m 56 #[.val (.long q1), .second, .val (.int p1), .val (.int p2), .val (.int kv), .val (.ref b1), .unset, .unset, .unset] [(.int p2), (.int (5 : Int32)), (.ref b1)]))
  refine ownVia (fun _ k => XS.iconst X27.here hx rfl (hb hby at_56) k) ?_
  show ownFin _ _ _ _ _ (T27.setTop (mkF m 57 #[.val (.long q1), .second, .val (.int p1), .val (.int p2), .val (.int kv), .val (.ref b1), .unset, .unset, .unset] [(.int (-1 : Int32)), (.int p2), (.int (5 : Int32)), (.ref b1)]))
  refine ownVia (fun _ k => XS.ixor X27.here hx rfl (hb hby at_57) rfl k) ?_
  show ownFin _ _ _ _ _ (T27.setTop (mkF m 58 #[.val (.long q1), .second, .val (.int p1), .val (.int p2), .val (.int kv), .val (.ref b1), .unset, .unset, .unset] [(.int (p2 ^^^ (-1 : Int32))), (.int (5 : Int32)), (.ref b1)]))
  refine ownVia (fun _ k => XS.bipush X27.here hx rfl (hb hby at_58) k) ?_
  show ownFin _ _ _ _ _ (T27.setTop (mkF m 60 #[.val (.long q1), .second, .val (.int p1), .val (.int p2), .val (.int kv), .val (.ref b1), .unset, .unset, .unset] [(.int (8 : Int32)), (.int (p2 ^^^ (-1 : Int32))), (.int (5 : Int32)), (.ref b1)]))
  refine ownVia (fun _ k => XS.iushr X27.here hx rfl (hb hby at_60) rfl k) ?_
  show ownFin _ _ _ _ _ (T27.setTop (mkF m 61 #[.val (.long q1), .second, .val (.int p1), .val (.int p2), .val (.int kv), .val (.ref b1), .unset, .unset, .unset] [(.int (((p2 ^^^ (-1 : Int32)).toUInt32 >>> ((8 : Int32) &&& 31).toUInt32).toInt32)), (.int (5 : Int32)), (.ref b1)]))
  refine ownVia (fun _ k => XS.i2b X27.here hx rfl (hb hby at_61) rfl k) ?_
  show ownFin _ _ _ _ _ (T27.setTop (mkF m 62 #[.val (.long q1), .second, .val (.int p1), .val (.int p2), .val (.int kv), .val (.ref b1), .unset, .unset, .unset] [(.int ((((p2 ^^^ (-1 : Int32)).toUInt32 >>> ((8 : Int32) &&& 31).toUInt32).toInt32).toInt8.toInt32)), (.int (5 : Int32)), (.ref b1)]))
  refine ownBastore X27 hx hZ e27 A_b1 ⟨by decide, by decide⟩ (5) (by decide) (Nat.le_of_ble_eq_true rfl) N27 ge_b1 (hb hby at_62) ?_
  intro T28 h28 L28 X28 e28 N28 W28 A_b1
  have E_b1 := E_b1.wr W28
  have Z0 := own_szW Z0 W28
  have A_b1 : Arv Z h28 b1 k_b1 .byte (11 : Int32) [(.int (nar .byte (p2.toInt8.toInt32))), (.int (nar .byte (((p2.toUInt32 >>> ((8 : Int32) &&& 31).toUInt32).toInt32).toInt8.toInt32))), (.int (nar .byte (((p2.toUInt32 >>> ((16 : Int32) &&& 31).toUInt32).toInt32).toInt8.toInt32))), (.int (nar .byte (((p2.toUInt32 >>> ((24 : Int32) &&& 31).toUInt32).toInt32).toInt8.toInt32))), (.int (nar .byte ((p2 ^^^ (-1 : Int32)).toInt8.toInt32))), (.int (nar .byte ((((p2 ^^^ (-1 : Int32)).toUInt32 >>> ((8 : Int32) &&& 31).toUInt32).toInt32).toInt8.toInt32))), (.int (0 : Int32)), (.int (0 : Int32)), (.int (0 : Int32)), (.int (0 : Int32)), (.int (0 : Int32))] (.int (0 : Int32)) := A_b1
  show ownFin _ _ _ _ _ (T28.setTop (mkF m 63 #[.val (.long q1), .second, .val (.int p1), .val (.int p2), .val (.int kv), .val (.ref b1), .unset, .unset, .unset] []))
  refine ownVia (fun _ k => XS.aload X28.here hx rfl (hb hby at_63) rfl rfl k) ?_
  show ownFin _ _ _ _ _ (T28.setTop (mkF m 65 #[.val (.long q1), .second, .val (.int p1), .val (.int p2), .val (.int kv), .val (.ref b1), .unset, .unset, .unset] [(.ref b1)]))
  refine ownVia (fun _ k => XS.bipush X28.here hx rfl (hb hby at_65) k) ?_
  show ownFin _ _ _ _ _ (T28.setTop (mkF m 67 #[.val (.long q1), .second, .val (.int p1), .val (.int p2), .val (.int kv), .val (.ref b1), .unset, .unset, .unset] [(.int (6 : Int32)), (.ref b1)]))
  refine ownVia (fun _ k => XS.iloadN X28.here hx rfl (hb hby at_67) rfl k) ?_
  show ownFin _ _ _ _ _ (T28.setTop (mkF m 68 #[.val (.long q1), .second, .val (.int p1), .val (.int p2), .val (.int kv), .val (.ref b1), .unset, .unset, .unset] [(.int p2), (.int (6 : Int32)), (.ref b1)]))
  refine ownVia (fun _ k => XS.iconst X28.here hx rfl (hb hby at_68) k) ?_
  show ownFin _ _ _ _ _ (T28.setTop (mkF m 69 #[.val (.long q1), .second, .val (.int p1), .val (.int p2), .val (.int kv), .val (.ref b1), .unset, .unset, .unset] [(.int (-1 : Int32)), (.int p2), (.int (6 : Int32)), (.ref b1)]))
  refine ownVia (fun _ k => XS.ixor X28.here hx rfl (hb hby at_69) rfl k) ?_
  show ownFin _ _ _ _ _ (T28.setTop (mkF m 70 #[.val (.long q1), .second, .val (.int p1), .val (.int p2), .val (.int kv), .val (.ref b1), .unset, .unset, .unset] [(.int (p2 ^^^ (-1 : Int32))), (.int (6 : Int32)), (.ref b1)]))
  refine ownVia (fun _ k => XS.bipush X28.here hx rfl (hb hby at_70) k) ?_
  show ownFin _ _ _ _ _ (T28.setTop (mkF m 72 #[.val (.long q1), .second, .val (.int p1), .val (.int p2), .val (.int kv), .val (.ref b1), .unset, .unset, .unset] [(.int (16 : Int32)), (.int (p2 ^^^ (-1 : Int32))), (.int (6 : Int32)), (.ref b1)]))
  refine ownVia (fun _ k => XS.iushr X28.here hx rfl (hb hby at_72) rfl k) ?_
  show ownFin _ _ _ _ _ (T28.setTop (mkF m 73 #[.val (.long q1), .second, .val (.int p1), .val (.int p2), .val (.int kv), .val (.ref b1), .unset, .unset, .unset] [(.int (((p2 ^^^ (-1 : Int32)).toUInt32 >>> ((16 : Int32) &&& 31).toUInt32).toInt32)), (.int (6 : Int32)), (.ref b1)]))
  refine ownVia (fun _ k => XS.i2b X28.here hx rfl (hb hby at_73) rfl k) ?_
  show ownFin _ _ _ _ _ (T28.setTop (mkF m 74 #[.val (.long q1), .second, .val (.int p1), .val (.int p2), .val (.int kv), .val (.ref b1), .unset, .unset, .unset] [(.int ((((p2 ^^^ (-1 : Int32)).toUInt32 >>> ((16 : Int32) &&& 31).toUInt32).toInt32).toInt8.toInt32)), (.int (6 : Int32)), (.ref b1)]))
  refine ownBastore X28 hx hZ e28 A_b1 ⟨by decide, by decide⟩ (6) (by decide) (Nat.le_of_ble_eq_true rfl) N28 ge_b1 (hb hby at_74) ?_
  intro T29 h29 L29 X29 e29 N29 W29 A_b1
  have E_b1 := E_b1.wr W29
  have Z0 := own_szW Z0 W29
  have A_b1 : Arv Z h29 b1 k_b1 .byte (11 : Int32) [(.int (nar .byte (p2.toInt8.toInt32))), (.int (nar .byte (((p2.toUInt32 >>> ((8 : Int32) &&& 31).toUInt32).toInt32).toInt8.toInt32))), (.int (nar .byte (((p2.toUInt32 >>> ((16 : Int32) &&& 31).toUInt32).toInt32).toInt8.toInt32))), (.int (nar .byte (((p2.toUInt32 >>> ((24 : Int32) &&& 31).toUInt32).toInt32).toInt8.toInt32))), (.int (nar .byte ((p2 ^^^ (-1 : Int32)).toInt8.toInt32))), (.int (nar .byte ((((p2 ^^^ (-1 : Int32)).toUInt32 >>> ((8 : Int32) &&& 31).toUInt32).toInt32).toInt8.toInt32))), (.int (nar .byte ((((p2 ^^^ (-1 : Int32)).toUInt32 >>> ((16 : Int32) &&& 31).toUInt32).toInt32).toInt8.toInt32))), (.int (0 : Int32)), (.int (0 : Int32)), (.int (0 : Int32)), (.int (0 : Int32))] (.int (0 : Int32)) := A_b1
  show ownFin _ _ _ _ _ (T29.setTop (mkF m 75 #[.val (.long q1), .second, .val (.int p1), .val (.int p2), .val (.int kv), .val (.ref b1), .unset, .unset, .unset] []))
  refine ownVia (fun _ k => XS.aload X29.here hx rfl (hb hby at_75) rfl rfl k) ?_
  show ownFin _ _ _ _ _ (T29.setTop (mkF m 77 #[.val (.long q1), .second, .val (.int p1), .val (.int p2), .val (.int kv), .val (.ref b1), .unset, .unset, .unset] [(.ref b1)]))
  refine ownVia (fun _ k => XS.bipush X29.here hx rfl (hb hby at_77) k) ?_
  show ownFin _ _ _ _ _ (T29.setTop (mkF m 79 #[.val (.long q1), .second, .val (.int p1), .val (.int p2), .val (.int kv), .val (.ref b1), .unset, .unset, .unset] [(.int (7 : Int32)), (.ref b1)]))
  refine ownVia (fun _ k => XS.iloadN X29.here hx rfl (hb hby at_79) rfl k) ?_
  show ownFin _ _ _ _ _ (T29.setTop (mkF m 80 #[.val (.long q1), .second, .val (.int p1), .val (.int p2), .val (.int kv), .val (.ref b1), .unset, .unset, .unset] [(.int p2), (.int (7 : Int32)), (.ref b1)]))
  refine ownVia (fun _ k => XS.iconst X29.here hx rfl (hb hby at_80) k) ?_
  show ownFin _ _ _ _ _ (T29.setTop (mkF m 81 #[.val (.long q1), .second, .val (.int p1), .val (.int p2), .val (.int kv), .val (.ref b1), .unset, .unset, .unset] [(.int (-1 : Int32)), (.int p2), (.int (7 : Int32)), (.ref b1)]))
  refine ownVia (fun _ k => XS.ixor X29.here hx rfl (hb hby at_81) rfl k) ?_
  show ownFin _ _ _ _ _ (T29.setTop (mkF m 82 #[.val (.long q1), .second, .val (.int p1), .val (.int p2), .val (.int kv), .val (.ref b1), .unset, .unset, .unset] [(.int (p2 ^^^ (-1 : Int32))), (.int (7 : Int32)), (.ref b1)]))
  refine ownVia (fun _ k => XS.bipush X29.here hx rfl (hb hby at_82) k) ?_
  show ownFin _ _ _ _ _ (T29.setTop (mkF m 84 #[.val (.long q1), .second, .val (.int p1), .val (.int p2), .val (.int kv), .val (.ref b1), .unset, .unset, .unset] [(.int (24 : Int32)), (.int (p2 ^^^ (-1 : Int32))), (.int (7 : Int32)), (.ref b1)]))
  refine ownVia (fun _ k => XS.iushr X29.here hx rfl (hb hby at_84) rfl k) ?_
  show ownFin _ _ _ _ _ (T29.setTop (mkF m 85 #[.val (.long q1), .second, .val (.int p1), .val (.int p2), .val (.int kv), .val (.ref b1), .unset, .unset, .unset] [(.int (((p2 ^^^ (-1 : Int32)).toUInt32 >>> ((24 : Int32) &&& 31).toUInt32).toInt32)), (.int (7 : Int32)), (.ref b1)]))
  refine ownVia (fun _ k => XS.i2b X29.here hx rfl (hb hby at_85) rfl k) ?_
  show ownFin _ _ _ _ _ (T29.setTop (mkF m 86 #[.val (.long q1), .second, .val (.int p1), .val (.int p2), .val (.int kv), .val (.ref b1), .unset, .unset, .unset] [(.int ((((p2 ^^^ (-1 : Int32)).toUInt32 >>> ((24 : Int32) &&& 31).toUInt32).toInt32).toInt8.toInt32)), (.int (7 : Int32)), (.ref b1)]))
  refine ownBastore X29 hx hZ e29 A_b1 ⟨by decide, by decide⟩ (7) (by decide) (Nat.le_of_ble_eq_true rfl) N29 ge_b1 (hb hby at_86) ?_
  intro T30 h30 L30 X30 e30 N30 W30 A_b1
  have E_b1 := E_b1.wr W30
  have Z0 := own_szW Z0 W30
  have A_b1 : Arv Z h30 b1 k_b1 .byte (11 : Int32) [(.int (nar .byte (p2.toInt8.toInt32))), (.int (nar .byte (((p2.toUInt32 >>> ((8 : Int32) &&& 31).toUInt32).toInt32).toInt8.toInt32))), (.int (nar .byte (((p2.toUInt32 >>> ((16 : Int32) &&& 31).toUInt32).toInt32).toInt8.toInt32))), (.int (nar .byte (((p2.toUInt32 >>> ((24 : Int32) &&& 31).toUInt32).toInt32).toInt8.toInt32))), (.int (nar .byte ((p2 ^^^ (-1 : Int32)).toInt8.toInt32))), (.int (nar .byte ((((p2 ^^^ (-1 : Int32)).toUInt32 >>> ((8 : Int32) &&& 31).toUInt32).toInt32).toInt8.toInt32))), (.int (nar .byte ((((p2 ^^^ (-1 : Int32)).toUInt32 >>> ((16 : Int32) &&& 31).toUInt32).toInt32).toInt8.toInt32))), (.int (nar .byte ((((p2 ^^^ (-1 : Int32)).toUInt32 >>> ((24 : Int32) &&& 31).toUInt32).toInt32).toInt8.toInt32))), (.int (0 : Int32)), (.int (0 : Int32)), (.int (0 : Int32))] (.int (0 : Int32)) := A_b1
  show ownFin _ _ _ _ _ (T30.setTop (mkF m 87 #[.val (.long q1), .second, .val (.int p1), .val (.int p2), .val (.int kv), .val (.ref b1), .unset, .unset, .unset] []))
  refine ownVia (fun _ k => XS.aload X30.here hx rfl (hb hby at_87) rfl rfl k) ?_
  show ownFin _ _ _ _ _ (T30.setTop (mkF m 89 #[.val (.long q1), .second, .val (.int p1), .val (.int p2), .val (.int kv), .val (.ref b1), .unset, .unset, .unset] [(.ref b1)]))
  refine ownVia (fun _ k => XS.bipush X30.here hx rfl (hb hby at_89) k) ?_
  show ownFin _ _ _ _ _ (T30.setTop (mkF m 91 #[.val (.long q1), .second, .val (.int p1), .val (.int p2), .val (.int kv), .val (.ref b1), .unset, .unset, .unset] [(.int (8 : Int32)), (.ref b1)]))
  refine ownVia (fun _ k => XS.iloadN X30.here hx rfl (hb hby at_91) rfl k) ?_
  show ownFin _ _ _ _ _ (T30.setTop (mkF m 92 #[.val (.long q1), .second, .val (.int p1), .val (.int p2), .val (.int kv), .val (.ref b1), .unset, .unset, .unset] [(.int p1), (.int (8 : Int32)), (.ref b1)]))
  refine ownVia (fun _ k => XS.i2b X30.here hx rfl (hb hby at_92) rfl k) ?_
  show ownFin _ _ _ _ _ (T30.setTop (mkF m 93 #[.val (.long q1), .second, .val (.int p1), .val (.int p2), .val (.int kv), .val (.ref b1), .unset, .unset, .unset] [(.int (p1.toInt8.toInt32)), (.int (8 : Int32)), (.ref b1)]))
  refine ownBastore X30 hx hZ e30 A_b1 ⟨by decide, by decide⟩ (8) (by decide) (Nat.le_of_ble_eq_true rfl) N30 ge_b1 (hb hby at_93) ?_
  intro T31 h31 L31 X31 e31 N31 W31 A_b1
  have E_b1 := E_b1.wr W31
  have Z0 := own_szW Z0 W31
  have A_b1 : Arv Z h31 b1 k_b1 .byte (11 : Int32) [(.int (nar .byte (p2.toInt8.toInt32))), (.int (nar .byte (((p2.toUInt32 >>> ((8 : Int32) &&& 31).toUInt32).toInt32).toInt8.toInt32))), (.int (nar .byte (((p2.toUInt32 >>> ((16 : Int32) &&& 31).toUInt32).toInt32).toInt8.toInt32))), (.int (nar .byte (((p2.toUInt32 >>> ((24 : Int32) &&& 31).toUInt32).toInt32).toInt8.toInt32))), (.int (nar .byte ((p2 ^^^ (-1 : Int32)).toInt8.toInt32))), (.int (nar .byte ((((p2 ^^^ (-1 : Int32)).toUInt32 >>> ((8 : Int32) &&& 31).toUInt32).toInt32).toInt8.toInt32))), (.int (nar .byte ((((p2 ^^^ (-1 : Int32)).toUInt32 >>> ((16 : Int32) &&& 31).toUInt32).toInt32).toInt8.toInt32))), (.int (nar .byte ((((p2 ^^^ (-1 : Int32)).toUInt32 >>> ((24 : Int32) &&& 31).toUInt32).toInt32).toInt8.toInt32))), (.int (nar .byte (p1.toInt8.toInt32))), (.int (0 : Int32)), (.int (0 : Int32))] (.int (0 : Int32)) := A_b1
  show ownFin _ _ _ _ _ (T31.setTop (mkF m 94 #[.val (.long q1), .second, .val (.int p1), .val (.int p2), .val (.int kv), .val (.ref b1), .unset, .unset, .unset] []))
  refine ownVia (fun _ k => XS.aload X31.here hx rfl (hb hby at_94) rfl rfl k) ?_
  show ownFin _ _ _ _ _ (T31.setTop (mkF m 96 #[.val (.long q1), .second, .val (.int p1), .val (.int p2), .val (.int kv), .val (.ref b1), .unset, .unset, .unset] [(.ref b1)]))
  refine ownVia (fun _ k => XS.bipush X31.here hx rfl (hb hby at_96) k) ?_
  show ownFin _ _ _ _ _ (T31.setTop (mkF m 98 #[.val (.long q1), .second, .val (.int p1), .val (.int p2), .val (.int kv), .val (.ref b1), .unset, .unset, .unset] [(.int (9 : Int32)), (.ref b1)]))
  refine ownVia (fun _ k => XS.iloadN X31.here hx rfl (hb hby at_98) rfl k) ?_
  show ownFin _ _ _ _ _ (T31.setTop (mkF m 99 #[.val (.long q1), .second, .val (.int p1), .val (.int p2), .val (.int kv), .val (.ref b1), .unset, .unset, .unset] [(.int p1), (.int (9 : Int32)), (.ref b1)]))
  refine ownVia (fun _ k => XS.bipush X31.here hx rfl (hb hby at_99) k) ?_
  show ownFin _ _ _ _ _ (T31.setTop (mkF m 101 #[.val (.long q1), .second, .val (.int p1), .val (.int p2), .val (.int kv), .val (.ref b1), .unset, .unset, .unset] [(.int (8 : Int32)), (.int p1), (.int (9 : Int32)), (.ref b1)]))
  refine ownVia (fun _ k => XS.iushr X31.here hx rfl (hb hby at_101) rfl k) ?_
  show ownFin _ _ _ _ _ (T31.setTop (mkF m 102 #[.val (.long q1), .second, .val (.int p1), .val (.int p2), .val (.int kv), .val (.ref b1), .unset, .unset, .unset] [(.int ((p1.toUInt32 >>> ((8 : Int32) &&& 31).toUInt32).toInt32)), (.int (9 : Int32)), (.ref b1)]))
  refine ownVia (fun _ k => XS.i2b X31.here hx rfl (hb hby at_102) rfl k) ?_
  show ownFin _ _ _ _ _ (T31.setTop (mkF m 103 #[.val (.long q1), .second, .val (.int p1), .val (.int p2), .val (.int kv), .val (.ref b1), .unset, .unset, .unset] [(.int (((p1.toUInt32 >>> ((8 : Int32) &&& 31).toUInt32).toInt32).toInt8.toInt32)), (.int (9 : Int32)), (.ref b1)]))
  refine ownBastore X31 hx hZ e31 A_b1 ⟨by decide, by decide⟩ (9) (by decide) (Nat.le_of_ble_eq_true rfl) N31 ge_b1 (hb hby at_103) ?_
  intro T32 h32 L32 X32 e32 N32 W32 A_b1
  have E_b1 := E_b1.wr W32
  have Z0 := own_szW Z0 W32
  have A_b1 : Arv Z h32 b1 k_b1 .byte (11 : Int32) [(.int (nar .byte (p2.toInt8.toInt32))), (.int (nar .byte (((p2.toUInt32 >>> ((8 : Int32) &&& 31).toUInt32).toInt32).toInt8.toInt32))), (.int (nar .byte (((p2.toUInt32 >>> ((16 : Int32) &&& 31).toUInt32).toInt32).toInt8.toInt32))), (.int (nar .byte (((p2.toUInt32 >>> ((24 : Int32) &&& 31).toUInt32).toInt32).toInt8.toInt32))), (.int (nar .byte ((p2 ^^^ (-1 : Int32)).toInt8.toInt32))), (.int (nar .byte ((((p2 ^^^ (-1 : Int32)).toUInt32 >>> ((8 : Int32) &&& 31).toUInt32).toInt32).toInt8.toInt32))), (.int (nar .byte ((((p2 ^^^ (-1 : Int32)).toUInt32 >>> ((16 : Int32) &&& 31).toUInt32).toInt32).toInt8.toInt32))), (.int (nar .byte ((((p2 ^^^ (-1 : Int32)).toUInt32 >>> ((24 : Int32) &&& 31).toUInt32).toInt32).toInt8.toInt32))), (.int (nar .byte (p1.toInt8.toInt32))), (.int (nar .byte (((p1.toUInt32 >>> ((8 : Int32) &&& 31).toUInt32).toInt32).toInt8.toInt32))), (.int (0 : Int32))] (.int (0 : Int32)) := A_b1
  show ownFin _ _ _ _ _ (T32.setTop (mkF m 104 #[.val (.long q1), .second, .val (.int p1), .val (.int p2), .val (.int kv), .val (.ref b1), .unset, .unset, .unset] []))
  refine ownVia (fun _ k => XS.aload X32.here hx rfl (hb hby at_104) rfl rfl k) ?_
  show ownFin _ _ _ _ _ (T32.setTop (mkF m 106 #[.val (.long q1), .second, .val (.int p1), .val (.int p2), .val (.int kv), .val (.ref b1), .unset, .unset, .unset] [(.ref b1)]))
  refine ownVia (fun _ k => XS.bipush X32.here hx rfl (hb hby at_106) k) ?_
  show ownFin _ _ _ _ _ (T32.setTop (mkF m 108 #[.val (.long q1), .second, .val (.int p1), .val (.int p2), .val (.int kv), .val (.ref b1), .unset, .unset, .unset] [(.int (10 : Int32)), (.ref b1)]))
  refine ownVia (fun _ k => XS.iloadN X32.here hx rfl (hb hby at_108) rfl k) ?_
  show ownFin _ _ _ _ _ (T32.setTop (mkF m 109 #[.val (.long q1), .second, .val (.int p1), .val (.int p2), .val (.int kv), .val (.ref b1), .unset, .unset, .unset] [(.int p1), (.int (10 : Int32)), (.ref b1)]))
  refine ownVia (fun _ k => XS.bipush X32.here hx rfl (hb hby at_109) k) ?_
  show ownFin _ _ _ _ _ (T32.setTop (mkF m 111 #[.val (.long q1), .second, .val (.int p1), .val (.int p2), .val (.int kv), .val (.ref b1), .unset, .unset, .unset] [(.int (16 : Int32)), (.int p1), (.int (10 : Int32)), (.ref b1)]))
  refine ownVia (fun _ k => XS.iushr X32.here hx rfl (hb hby at_111) rfl k) ?_
  show ownFin _ _ _ _ _ (T32.setTop (mkF m 112 #[.val (.long q1), .second, .val (.int p1), .val (.int p2), .val (.int kv), .val (.ref b1), .unset, .unset, .unset] [(.int ((p1.toUInt32 >>> ((16 : Int32) &&& 31).toUInt32).toInt32)), (.int (10 : Int32)), (.ref b1)]))
  refine ownVia (fun _ k => XS.i2b X32.here hx rfl (hb hby at_112) rfl k) ?_
  show ownFin _ _ _ _ _ (T32.setTop (mkF m 113 #[.val (.long q1), .second, .val (.int p1), .val (.int p2), .val (.int kv), .val (.ref b1), .unset, .unset, .unset] [(.int (((p1.toUInt32 >>> ((16 : Int32) &&& 31).toUInt32).toInt32).toInt8.toInt32)), (.int (10 : Int32)), (.ref b1)]))
  refine ownBastore X32 hx hZ e32 A_b1 ⟨by decide, by decide⟩ (10) (by decide) (Nat.le_of_ble_eq_true rfl) N32 ge_b1 (hb hby at_113) ?_
  intro T33 h33 L33 X33 e33 N33 W33 A_b1
  have E_b1 := E_b1.wr W33
  have Z0 := own_szW Z0 W33
  have A_b1 : Arv Z h33 b1 k_b1 .byte (11 : Int32) [(.int (nar .byte (p2.toInt8.toInt32))), (.int (nar .byte (((p2.toUInt32 >>> ((8 : Int32) &&& 31).toUInt32).toInt32).toInt8.toInt32))), (.int (nar .byte (((p2.toUInt32 >>> ((16 : Int32) &&& 31).toUInt32).toInt32).toInt8.toInt32))), (.int (nar .byte (((p2.toUInt32 >>> ((24 : Int32) &&& 31).toUInt32).toInt32).toInt8.toInt32))), (.int (nar .byte ((p2 ^^^ (-1 : Int32)).toInt8.toInt32))), (.int (nar .byte ((((p2 ^^^ (-1 : Int32)).toUInt32 >>> ((8 : Int32) &&& 31).toUInt32).toInt32).toInt8.toInt32))), (.int (nar .byte ((((p2 ^^^ (-1 : Int32)).toUInt32 >>> ((16 : Int32) &&& 31).toUInt32).toInt32).toInt8.toInt32))), (.int (nar .byte ((((p2 ^^^ (-1 : Int32)).toUInt32 >>> ((24 : Int32) &&& 31).toUInt32).toInt32).toInt8.toInt32))), (.int (nar .byte (p1.toInt8.toInt32))), (.int (nar .byte (((p1.toUInt32 >>> ((8 : Int32) &&& 31).toUInt32).toInt32).toInt8.toInt32))), (.int (nar .byte (((p1.toUInt32 >>> ((16 : Int32) &&& 31).toUInt32).toInt32).toInt8.toInt32)))] (.int (0 : Int32)) := A_b1
  show ownFin _ _ _ _ _ (T33.setTop (mkF m 114 #[.val (.long q1), .second, .val (.int p1), .val (.int p2), .val (.int kv), .val (.ref b1), .unset, .unset, .unset] []))
  refine ownVia (fun _ k => XS.aload X33.here hx rfl (hb hby at_114) rfl rfl k) ?_
  show ownFin _ _ _ _ _ (T33.setTop (mkF m 116 #[.val (.long q1), .second, .val (.int p1), .val (.int p2), .val (.int kv), .val (.ref b1), .unset, .unset, .unset] [(.ref b1)]))
  refine ownVia (fun _ k => XS.iload X33.here hx rfl (hb hby at_116) rfl k) ?_
  show ownFin _ _ _ _ _ (T33.setTop (mkF m 118 #[.val (.long q1), .second, .val (.int p1), .val (.int p2), .val (.int kv), .val (.ref b1), .unset, .unset, .unset] [(.int kv), (.ref b1)]))
  refine ownVia (fun _ k => XS.lloadN X33.here hx rfl (hb hby at_118) rfl k) ?_
  show ownFin _ _ _ _ _ (T33.setTop (mkF m 119 #[.val (.long q1), .second, .val (.int p1), .val (.int p2), .val (.int kv), .val (.ref b1), .unset, .unset, .unset] [(.long q1), (.int kv), (.ref b1)]))
  refine ownVia (fun _ k => XS.bipush X33.here hx rfl (hb hby at_119) k) ?_
  show ownFin _ _ _ _ _ (T33.setTop (mkF m 121 #[.val (.long q1), .second, .val (.int p1), .val (.int p2), .val (.int kv), .val (.ref b1), .unset, .unset, .unset] [(.int (56 : Int32)), (.long q1), (.int kv), (.ref b1)]))
  refine ownVia (fun _ k => XS.lushr X33.here hx rfl (hb hby at_121) rfl k) ?_
  show ownFin _ _ _ _ _ (T33.setTop (mkF m 122 #[.val (.long q1), .second, .val (.int p1), .val (.int p2), .val (.int kv), .val (.ref b1), .unset, .unset, .unset] [(.long ((q1.toUInt64 >>> ((56 : Int32) &&& 0x3f).toInt64.toUInt64).toInt64)), (.int kv), (.ref b1)]))
  refine ownVia (fun _ k => XS.l2i X33.here hx rfl (hb hby at_122) rfl k) ?_
  show ownFin _ _ _ _ _ (T33.setTop (mkF m 123 #[.val (.long q1), .second, .val (.int p1), .val (.int p2), .val (.int kv), .val (.ref b1), .unset, .unset, .unset] [(.int (((q1.toUInt64 >>> ((56 : Int32) &&& 0x3f).toInt64.toUInt64).toInt64).toInt32)), (.int kv), (.ref b1)]))
  refine ownVia (fun _ k => XS.i2b X33.here hx rfl (hb hby at_123) rfl k) ?_
  show ownFin _ _ _ _ _ (T33.setTop (mkF m 124 #[.val (.long q1), .second, .val (.int p1), .val (.int p2), .val (.int kv), .val (.ref b1), .unset, .unset, .unset] [(.int ((((q1.toUInt64 >>> ((56 : Int32) &&& 0x3f).toInt64.toUInt64).toInt64).toInt32).toInt8.toInt32)), (.int kv), (.ref b1)]))
  show ownFin _ _ _ _ _ (T33.setTop (mkF m 124 #[.val (.long q1), .second, .val (.int p1), .val (.int p2), .val (.int kv), .val (.ref b1), .unset, .unset, .unset] [(.int (own_y q1 56)), (.int kv), (.ref b1)]))
  refine ownBastore X33 hx hZ e33 A_b1 (own_idx (by decide : (11 : Int32).toInt = 11) (by omega) (by omega)) (k) (own_clamp hk) (by simp only [List.length_set, List.length_cons, List.length_nil]; omega) N33 ge_b1 (hb hby at_124) ?_
  intro T34 h34 L34 X34 e34 N34 W34 A_b1
  have E_b1 := E_b1.wr W34
  have Z0 := own_szW Z0 W34
  have A_b1 : Arv Z h34 b1 k_b1 .byte (11 : Int32) ([(.int (nar .byte (p2.toInt8.toInt32))), (.int (nar .byte (((p2.toUInt32 >>> ((8 : Int32) &&& 31).toUInt32).toInt32).toInt8.toInt32))), (.int (nar .byte (((p2.toUInt32 >>> ((16 : Int32) &&& 31).toUInt32).toInt32).toInt8.toInt32))), (.int (nar .byte (((p2.toUInt32 >>> ((24 : Int32) &&& 31).toUInt32).toInt32).toInt8.toInt32))), (.int (nar .byte ((p2 ^^^ (-1 : Int32)).toInt8.toInt32))), (.int (nar .byte ((((p2 ^^^ (-1 : Int32)).toUInt32 >>> ((8 : Int32) &&& 31).toUInt32).toInt32).toInt8.toInt32))), (.int (nar .byte ((((p2 ^^^ (-1 : Int32)).toUInt32 >>> ((16 : Int32) &&& 31).toUInt32).toInt32).toInt8.toInt32))), (.int (nar .byte ((((p2 ^^^ (-1 : Int32)).toUInt32 >>> ((24 : Int32) &&& 31).toUInt32).toInt32).toInt8.toInt32))), (.int (nar .byte (p1.toInt8.toInt32))), (.int (nar .byte (((p1.toUInt32 >>> ((8 : Int32) &&& 31).toUInt32).toInt32).toInt8.toInt32))), (.int (nar .byte (((p1.toUInt32 >>> ((16 : Int32) &&& 31).toUInt32).toInt32).toInt8.toInt32)))].set (k) (.int (nar .byte (own_y q1 56)))) (.int (0 : Int32)) := A_b1
  show ownFin _ _ _ _ _ (T34.setTop (mkF m 125 #[.val (.long q1), .second, .val (.int p1), .val (.int p2), .val (.int kv), .val (.ref b1), .unset, .unset, .unset] []))
  refine ownVia (fun _ k => XS.aload X34.here hx rfl (hb hby at_125) rfl rfl k) ?_
  show ownFin _ _ _ _ _ (T34.setTop (mkF m 127 #[.val (.long q1), .second, .val (.int p1), .val (.int p2), .val (.int kv), .val (.ref b1), .unset, .unset, .unset] [(.ref b1)]))
  refine ownVia (fun _ k => XS.iload X34.here hx rfl (hb hby at_127) rfl k) ?_
  show ownFin _ _ _ _ _ (T34.setTop (mkF m 129 #[.val (.long q1), .second, .val (.int p1), .val (.int p2), .val (.int kv), .val (.ref b1), .unset, .unset, .unset] [(.int kv), (.ref b1)]))
  refine ownVia (fun _ k => XS.iconst X34.here hx rfl (hb hby at_129) k) ?_
  show ownFin _ _ _ _ _ (T34.setTop (mkF m 130 #[.val (.long q1), .second, .val (.int p1), .val (.int p2), .val (.int kv), .val (.ref b1), .unset, .unset, .unset] [(.int (1 : Int32)), (.int kv), (.ref b1)]))
  refine ownVia (fun _ k => XS.iadd X34.here hx rfl (hb hby at_130) rfl k) ?_
  show ownFin _ _ _ _ _ (T34.setTop (mkF m 131 #[.val (.long q1), .second, .val (.int p1), .val (.int p2), .val (.int kv), .val (.ref b1), .unset, .unset, .unset] [(.int (kv + (1 : Int32))), (.ref b1)]))
  refine ownVia (fun _ k => XS.lloadN X34.here hx rfl (hb hby at_131) rfl k) ?_
  show ownFin _ _ _ _ _ (T34.setTop (mkF m 132 #[.val (.long q1), .second, .val (.int p1), .val (.int p2), .val (.int kv), .val (.ref b1), .unset, .unset, .unset] [(.long q1), (.int (kv + (1 : Int32))), (.ref b1)]))
  refine ownVia (fun _ k => XS.bipush X34.here hx rfl (hb hby at_132) k) ?_
  show ownFin _ _ _ _ _ (T34.setTop (mkF m 134 #[.val (.long q1), .second, .val (.int p1), .val (.int p2), .val (.int kv), .val (.ref b1), .unset, .unset, .unset] [(.int (48 : Int32)), (.long q1), (.int (kv + (1 : Int32))), (.ref b1)]))
  refine ownVia (fun _ k => XS.lushr X34.here hx rfl (hb hby at_134) rfl k) ?_
  show ownFin _ _ _ _ _ (T34.setTop (mkF m 135 #[.val (.long q1), .second, .val (.int p1), .val (.int p2), .val (.int kv), .val (.ref b1), .unset, .unset, .unset] [(.long ((q1.toUInt64 >>> ((48 : Int32) &&& 0x3f).toInt64.toUInt64).toInt64)), (.int (kv + (1 : Int32))), (.ref b1)]))
  refine ownVia (fun _ k => XS.l2i X34.here hx rfl (hb hby at_135) rfl k) ?_
  show ownFin _ _ _ _ _ (T34.setTop (mkF m 136 #[.val (.long q1), .second, .val (.int p1), .val (.int p2), .val (.int kv), .val (.ref b1), .unset, .unset, .unset] [(.int (((q1.toUInt64 >>> ((48 : Int32) &&& 0x3f).toInt64.toUInt64).toInt64).toInt32)), (.int (kv + (1 : Int32))), (.ref b1)]))
  refine ownVia (fun _ k => XS.i2b X34.here hx rfl (hb hby at_136) rfl k) ?_
  show ownFin _ _ _ _ _ (T34.setTop (mkF m 137 #[.val (.long q1), .second, .val (.int p1), .val (.int p2), .val (.int kv), .val (.ref b1), .unset, .unset, .unset] [(.int ((((q1.toUInt64 >>> ((48 : Int32) &&& 0x3f).toInt64.toUInt64).toInt64).toInt32).toInt8.toInt32)), (.int (kv + (1 : Int32))), (.ref b1)]))
  show ownFin _ _ _ _ _ (T34.setTop (mkF m 137 #[.val (.long q1), .second, .val (.int p1), .val (.int p2), .val (.int kv), .val (.ref b1), .unset, .unset, .unset] [(.int (own_y q1 48)), (.int (kv + (1 : Int32))), (.ref b1)]))
  have hk_1 := own_add hk (by decide : (1 : Int32).toInt = ((1 : Nat) : Int)) (by omega)
  refine ownBastore X34 hx hZ e34 A_b1 (own_idx (by decide : (11 : Int32).toInt = 11) (by omega) (by omega)) (k + 1) (own_clamp hk_1) (by simp only [List.length_set, List.length_cons, List.length_nil]; omega) N34 ge_b1 (hb hby at_137) ?_
  intro T35 h35 L35 X35 e35 N35 W35 A_b1
  have E_b1 := E_b1.wr W35
  have Z0 := own_szW Z0 W35
  have A_b1 : Arv Z h35 b1 k_b1 .byte (11 : Int32) (([(.int (nar .byte (p2.toInt8.toInt32))), (.int (nar .byte (((p2.toUInt32 >>> ((8 : Int32) &&& 31).toUInt32).toInt32).toInt8.toInt32))), (.int (nar .byte (((p2.toUInt32 >>> ((16 : Int32) &&& 31).toUInt32).toInt32).toInt8.toInt32))), (.int (nar .byte (((p2.toUInt32 >>> ((24 : Int32) &&& 31).toUInt32).toInt32).toInt8.toInt32))), (.int (nar .byte ((p2 ^^^ (-1 : Int32)).toInt8.toInt32))), (.int (nar .byte ((((p2 ^^^ (-1 : Int32)).toUInt32 >>> ((8 : Int32) &&& 31).toUInt32).toInt32).toInt8.toInt32))), (.int (nar .byte ((((p2 ^^^ (-1 : Int32)).toUInt32 >>> ((16 : Int32) &&& 31).toUInt32).toInt32).toInt8.toInt32))), (.int (nar .byte ((((p2 ^^^ (-1 : Int32)).toUInt32 >>> ((24 : Int32) &&& 31).toUInt32).toInt32).toInt8.toInt32))), (.int (nar .byte (p1.toInt8.toInt32))), (.int (nar .byte (((p1.toUInt32 >>> ((8 : Int32) &&& 31).toUInt32).toInt32).toInt8.toInt32))), (.int (nar .byte (((p1.toUInt32 >>> ((16 : Int32) &&& 31).toUInt32).toInt32).toInt8.toInt32)))].set (k) (.int (nar .byte (own_y q1 56)))).set (k + 1) (.int (nar .byte (own_y q1 48)))) (.int (0 : Int32)) := A_b1
  show ownFin _ _ _ _ _ (T35.setTop (mkF m 138 #[.val (.long q1), .second, .val (.int p1), .val (.int p2), .val (.int kv), .val (.ref b1), .unset, .unset, .unset] []))
  refine ownVia (fun _ k => XS.aload X35.here hx rfl (hb hby at_138) rfl rfl k) ?_
  show ownFin _ _ _ _ _ (T35.setTop (mkF m 140 #[.val (.long q1), .second, .val (.int p1), .val (.int p2), .val (.int kv), .val (.ref b1), .unset, .unset, .unset] [(.ref b1)]))
  refine ownVia (fun _ k => XS.iload X35.here hx rfl (hb hby at_140) rfl k) ?_
  show ownFin _ _ _ _ _ (T35.setTop (mkF m 142 #[.val (.long q1), .second, .val (.int p1), .val (.int p2), .val (.int kv), .val (.ref b1), .unset, .unset, .unset] [(.int kv), (.ref b1)]))
  refine ownVia (fun _ k => XS.iconst X35.here hx rfl (hb hby at_142) k) ?_
  show ownFin _ _ _ _ _ (T35.setTop (mkF m 143 #[.val (.long q1), .second, .val (.int p1), .val (.int p2), .val (.int kv), .val (.ref b1), .unset, .unset, .unset] [(.int (2 : Int32)), (.int kv), (.ref b1)]))
  refine ownVia (fun _ k => XS.iadd X35.here hx rfl (hb hby at_143) rfl k) ?_
  show ownFin _ _ _ _ _ (T35.setTop (mkF m 144 #[.val (.long q1), .second, .val (.int p1), .val (.int p2), .val (.int kv), .val (.ref b1), .unset, .unset, .unset] [(.int (kv + (2 : Int32))), (.ref b1)]))
  refine ownVia (fun _ k => XS.lloadN X35.here hx rfl (hb hby at_144) rfl k) ?_
  show ownFin _ _ _ _ _ (T35.setTop (mkF m 145 #[.val (.long q1), .second, .val (.int p1), .val (.int p2), .val (.int kv), .val (.ref b1), .unset, .unset, .unset] [(.long q1), (.int (kv + (2 : Int32))), (.ref b1)]))
  refine ownVia (fun _ k => XS.bipush X35.here hx rfl (hb hby at_145) k) ?_
  show ownFin _ _ _ _ _ (T35.setTop (mkF m 147 #[.val (.long q1), .second, .val (.int p1), .val (.int p2), .val (.int kv), .val (.ref b1), .unset, .unset, .unset] [(.int (40 : Int32)), (.long q1), (.int (kv + (2 : Int32))), (.ref b1)]))
  refine ownVia (fun _ k => XS.lushr X35.here hx rfl (hb hby at_147) rfl k) ?_
  show ownFin _ _ _ _ _ (T35.setTop (mkF m 148 #[.val (.long q1), .second, .val (.int p1), .val (.int p2), .val (.int kv), .val (.ref b1), .unset, .unset, .unset] [(.long ((q1.toUInt64 >>> ((40 : Int32) &&& 0x3f).toInt64.toUInt64).toInt64)), (.int (kv + (2 : Int32))), (.ref b1)]))
  refine ownVia (fun _ k => XS.l2i X35.here hx rfl (hb hby at_148) rfl k) ?_
  show ownFin _ _ _ _ _ (T35.setTop (mkF m 149 #[.val (.long q1), .second, .val (.int p1), .val (.int p2), .val (.int kv), .val (.ref b1), .unset, .unset, .unset] [(.int (((q1.toUInt64 >>> ((40 : Int32) &&& 0x3f).toInt64.toUInt64).toInt64).toInt32)), (.int (kv + (2 : Int32))), (.ref b1)]))
  refine ownVia (fun _ k => XS.i2b X35.here hx rfl (hb hby at_149) rfl k) ?_
  show ownFin _ _ _ _ _ (T35.setTop (mkF m 150 #[.val (.long q1), .second, .val (.int p1), .val (.int p2), .val (.int kv), .val (.ref b1), .unset, .unset, .unset] [(.int ((((q1.toUInt64 >>> ((40 : Int32) &&& 0x3f).toInt64.toUInt64).toInt64).toInt32).toInt8.toInt32)), (.int (kv + (2 : Int32))), (.ref b1)]))
  show ownFin _ _ _ _ _ (T35.setTop (mkF m 150 #[.val (.long q1), .second, .val (.int p1), .val (.int p2), .val (.int kv), .val (.ref b1), .unset, .unset, .unset] [(.int (own_y q1 40)), (.int (kv + (2 : Int32))), (.ref b1)]))
  have hk_2 := own_add hk (by decide : (2 : Int32).toInt = ((2 : Nat) : Int)) (by omega)
  refine ownBastore X35 hx hZ e35 A_b1 (own_idx (by decide : (11 : Int32).toInt = 11) (by omega) (by omega)) (k + 2) (own_clamp hk_2) (by simp only [List.length_set, List.length_cons, List.length_nil]; omega) N35 ge_b1 (hb hby at_150) ?_
  intro T36 h36 L36 X36 e36 N36 W36 A_b1
  have E_b1 := E_b1.wr W36
  have Z0 := own_szW Z0 W36
  have A_b1 : Arv Z h36 b1 k_b1 .byte (11 : Int32) ((([(.int (nar .byte (p2.toInt8.toInt32))), (.int (nar .byte (((p2.toUInt32 >>> ((8 : Int32) &&& 31).toUInt32).toInt32).toInt8.toInt32))), (.int (nar .byte (((p2.toUInt32 >>> ((16 : Int32) &&& 31).toUInt32).toInt32).toInt8.toInt32))), (.int (nar .byte (((p2.toUInt32 >>> ((24 : Int32) &&& 31).toUInt32).toInt32).toInt8.toInt32))), (.int (nar .byte ((p2 ^^^ (-1 : Int32)).toInt8.toInt32))), (.int (nar .byte ((((p2 ^^^ (-1 : Int32)).toUInt32 >>> ((8 : Int32) &&& 31).toUInt32).toInt32).toInt8.toInt32))), (.int (nar .byte ((((p2 ^^^ (-1 : Int32)).toUInt32 >>> ((16 : Int32) &&& 31).toUInt32).toInt32).toInt8.toInt32))), (.int (nar .byte ((((p2 ^^^ (-1 : Int32)).toUInt32 >>> ((24 : Int32) &&& 31).toUInt32).toInt32).toInt8.toInt32))), (.int (nar .byte (p1.toInt8.toInt32))), (.int (nar .byte (((p1.toUInt32 >>> ((8 : Int32) &&& 31).toUInt32).toInt32).toInt8.toInt32))), (.int (nar .byte (((p1.toUInt32 >>> ((16 : Int32) &&& 31).toUInt32).toInt32).toInt8.toInt32)))].set (k) (.int (nar .byte (own_y q1 56)))).set (k + 1) (.int (nar .byte (own_y q1 48)))).set (k + 2) (.int (nar .byte (own_y q1 40)))) (.int (0 : Int32)) := A_b1
  show ownFin _ _ _ _ _ (T36.setTop (mkF m 151 #[.val (.long q1), .second, .val (.int p1), .val (.int p2), .val (.int kv), .val (.ref b1), .unset, .unset, .unset] []))
  refine ownVia (fun _ k => XS.aload X36.here hx rfl (hb hby at_151) rfl rfl k) ?_
  show ownFin _ _ _ _ _ (T36.setTop (mkF m 153 #[.val (.long q1), .second, .val (.int p1), .val (.int p2), .val (.int kv), .val (.ref b1), .unset, .unset, .unset] [(.ref b1)]))
  refine ownVia (fun _ k => XS.iload X36.here hx rfl (hb hby at_153) rfl k) ?_
  show ownFin _ _ _ _ _ (T36.setTop (mkF m 155 #[.val (.long q1), .second, .val (.int p1), .val (.int p2), .val (.int kv), .val (.ref b1), .unset, .unset, .unset] [(.int kv), (.ref b1)]))
  refine ownVia (fun _ k => XS.iconst X36.here hx rfl (hb hby at_155) k) ?_
  show ownFin _ _ _ _ _ (T36.setTop (mkF m 156 #[.val (.long q1), .second, .val (.int p1), .val (.int p2), .val (.int kv), .val (.ref b1), .unset, .unset, .unset] [(.int (3 : Int32)), (.int kv), (.ref b1)]))
  refine ownVia (fun _ k => XS.iadd X36.here hx rfl (hb hby at_156) rfl k) ?_
  show ownFin _ _ _ _ _ (T36.setTop (mkF m 157 #[.val (.long q1), .second, .val (.int p1), .val (.int p2), .val (.int kv), .val (.ref b1), .unset, .unset, .unset] [(.int (kv + (3 : Int32))), (.ref b1)]))
  refine ownVia (fun _ k => XS.lloadN X36.here hx rfl (hb hby at_157) rfl k) ?_
  show ownFin _ _ _ _ _ (T36.setTop (mkF m 158 #[.val (.long q1), .second, .val (.int p1), .val (.int p2), .val (.int kv), .val (.ref b1), .unset, .unset, .unset] [(.long q1), (.int (kv + (3 : Int32))), (.ref b1)]))
  refine ownVia (fun _ k => XS.bipush X36.here hx rfl (hb hby at_158) k) ?_
  show ownFin _ _ _ _ _ (T36.setTop (mkF m 160 #[.val (.long q1), .second, .val (.int p1), .val (.int p2), .val (.int kv), .val (.ref b1), .unset, .unset, .unset] [(.int (32 : Int32)), (.long q1), (.int (kv + (3 : Int32))), (.ref b1)]))
  refine ownVia (fun _ k => XS.lushr X36.here hx rfl (hb hby at_160) rfl k) ?_
  show ownFin _ _ _ _ _ (T36.setTop (mkF m 161 #[.val (.long q1), .second, .val (.int p1), .val (.int p2), .val (.int kv), .val (.ref b1), .unset, .unset, .unset] [(.long ((q1.toUInt64 >>> ((32 : Int32) &&& 0x3f).toInt64.toUInt64).toInt64)), (.int (kv + (3 : Int32))), (.ref b1)]))
  refine ownVia (fun _ k => XS.l2i X36.here hx rfl (hb hby at_161) rfl k) ?_
  show ownFin _ _ _ _ _ (T36.setTop (mkF m 162 #[.val (.long q1), .second, .val (.int p1), .val (.int p2), .val (.int kv), .val (.ref b1), .unset, .unset, .unset] [(.int (((q1.toUInt64 >>> ((32 : Int32) &&& 0x3f).toInt64.toUInt64).toInt64).toInt32)), (.int (kv + (3 : Int32))), (.ref b1)]))
  refine ownVia (fun _ k => XS.i2b X36.here hx rfl (hb hby at_162) rfl k) ?_
  show ownFin _ _ _ _ _ (T36.setTop (mkF m 163 #[.val (.long q1), .second, .val (.int p1), .val (.int p2), .val (.int kv), .val (.ref b1), .unset, .unset, .unset] [(.int ((((q1.toUInt64 >>> ((32 : Int32) &&& 0x3f).toInt64.toUInt64).toInt64).toInt32).toInt8.toInt32)), (.int (kv + (3 : Int32))), (.ref b1)]))
  show ownFin _ _ _ _ _ (T36.setTop (mkF m 163 #[.val (.long q1), .second, .val (.int p1), .val (.int p2), .val (.int kv), .val (.ref b1), .unset, .unset, .unset] [(.int (own_y q1 32)), (.int (kv + (3 : Int32))), (.ref b1)]))
  have hk_3 := own_add hk (by decide : (3 : Int32).toInt = ((3 : Nat) : Int)) (by omega)
  refine ownBastore X36 hx hZ e36 A_b1 (own_idx (by decide : (11 : Int32).toInt = 11) (by omega) (by omega)) (k + 3) (own_clamp hk_3) (by simp only [List.length_set, List.length_cons, List.length_nil]; omega) N36 ge_b1 (hb hby at_163) ?_
  intro T37 h37 L37 X37 e37 N37 W37 A_b1
  have E_b1 := E_b1.wr W37
  have Z0 := own_szW Z0 W37
  have A_b1 : Arv Z h37 b1 k_b1 .byte (11 : Int32) (((([(.int (nar .byte (p2.toInt8.toInt32))), (.int (nar .byte (((p2.toUInt32 >>> ((8 : Int32) &&& 31).toUInt32).toInt32).toInt8.toInt32))), (.int (nar .byte (((p2.toUInt32 >>> ((16 : Int32) &&& 31).toUInt32).toInt32).toInt8.toInt32))), (.int (nar .byte (((p2.toUInt32 >>> ((24 : Int32) &&& 31).toUInt32).toInt32).toInt8.toInt32))), (.int (nar .byte ((p2 ^^^ (-1 : Int32)).toInt8.toInt32))), (.int (nar .byte ((((p2 ^^^ (-1 : Int32)).toUInt32 >>> ((8 : Int32) &&& 31).toUInt32).toInt32).toInt8.toInt32))), (.int (nar .byte ((((p2 ^^^ (-1 : Int32)).toUInt32 >>> ((16 : Int32) &&& 31).toUInt32).toInt32).toInt8.toInt32))), (.int (nar .byte ((((p2 ^^^ (-1 : Int32)).toUInt32 >>> ((24 : Int32) &&& 31).toUInt32).toInt32).toInt8.toInt32))), (.int (nar .byte (p1.toInt8.toInt32))), (.int (nar .byte (((p1.toUInt32 >>> ((8 : Int32) &&& 31).toUInt32).toInt32).toInt8.toInt32))), (.int (nar .byte (((p1.toUInt32 >>> ((16 : Int32) &&& 31).toUInt32).toInt32).toInt8.toInt32)))].set (k) (.int (nar .byte (own_y q1 56)))).set (k + 1) (.int (nar .byte (own_y q1 48)))).set (k + 2) (.int (nar .byte (own_y q1 40)))).set (k + 3) (.int (nar .byte (own_y q1 32)))) (.int (0 : Int32)) := A_b1
  show ownFin _ _ _ _ _ (T37.setTop (mkF m 164 #[.val (.long q1), .second, .val (.int p1), .val (.int p2), .val (.int kv), .val (.ref b1), .unset, .unset, .unset] []))
  refine ownVia (fun _ k => XS.aload X37.here hx rfl (hb hby at_164) rfl rfl k) ?_
  show ownFin _ _ _ _ _ (T37.setTop (mkF m 166 #[.val (.long q1), .second, .val (.int p1), .val (.int p2), .val (.int kv), .val (.ref b1), .unset, .unset, .unset] [(.ref b1)]))
  refine ownVia (fun _ k => XS.iload X37.here hx rfl (hb hby at_166) rfl k) ?_
  show ownFin _ _ _ _ _ (T37.setTop (mkF m 168 #[.val (.long q1), .second, .val (.int p1), .val (.int p2), .val (.int kv), .val (.ref b1), .unset, .unset, .unset] [(.int kv), (.ref b1)]))
  refine ownVia (fun _ k => XS.iconst X37.here hx rfl (hb hby at_168) k) ?_
  show ownFin _ _ _ _ _ (T37.setTop (mkF m 169 #[.val (.long q1), .second, .val (.int p1), .val (.int p2), .val (.int kv), .val (.ref b1), .unset, .unset, .unset] [(.int (4 : Int32)), (.int kv), (.ref b1)]))
  refine ownVia (fun _ k => XS.iadd X37.here hx rfl (hb hby at_169) rfl k) ?_
  show ownFin _ _ _ _ _ (T37.setTop (mkF m 170 #[.val (.long q1), .second, .val (.int p1), .val (.int p2), .val (.int kv), .val (.ref b1), .unset, .unset, .unset] [(.int (kv + (4 : Int32))), (.ref b1)]))
  refine ownVia (fun _ k => XS.lloadN X37.here hx rfl (hb hby at_170) rfl k) ?_
  show ownFin _ _ _ _ _ (T37.setTop (mkF m 171 #[.val (.long q1), .second, .val (.int p1), .val (.int p2), .val (.int kv), .val (.ref b1), .unset, .unset, .unset] [(.long q1), (.int (kv + (4 : Int32))), (.ref b1)]))
  refine ownVia (fun _ k => XS.bipush X37.here hx rfl (hb hby at_171) k) ?_
  show ownFin _ _ _ _ _ (T37.setTop (mkF m 173 #[.val (.long q1), .second, .val (.int p1), .val (.int p2), .val (.int kv), .val (.ref b1), .unset, .unset, .unset] [(.int (24 : Int32)), (.long q1), (.int (kv + (4 : Int32))), (.ref b1)]))
  refine ownVia (fun _ k => XS.lushr X37.here hx rfl (hb hby at_173) rfl k) ?_
  show ownFin _ _ _ _ _ (T37.setTop (mkF m 174 #[.val (.long q1), .second, .val (.int p1), .val (.int p2), .val (.int kv), .val (.ref b1), .unset, .unset, .unset] [(.long ((q1.toUInt64 >>> ((24 : Int32) &&& 0x3f).toInt64.toUInt64).toInt64)), (.int (kv + (4 : Int32))), (.ref b1)]))
  refine ownVia (fun _ k => XS.l2i X37.here hx rfl (hb hby at_174) rfl k) ?_
  show ownFin _ _ _ _ _ (T37.setTop (mkF m 175 #[.val (.long q1), .second, .val (.int p1), .val (.int p2), .val (.int kv), .val (.ref b1), .unset, .unset, .unset] [(.int (((q1.toUInt64 >>> ((24 : Int32) &&& 0x3f).toInt64.toUInt64).toInt64).toInt32)), (.int (kv + (4 : Int32))), (.ref b1)]))
  refine ownVia (fun _ k => XS.i2b X37.here hx rfl (hb hby at_175) rfl k) ?_
  show ownFin _ _ _ _ _ (T37.setTop (mkF m 176 #[.val (.long q1), .second, .val (.int p1), .val (.int p2), .val (.int kv), .val (.ref b1), .unset, .unset, .unset] [(.int ((((q1.toUInt64 >>> ((24 : Int32) &&& 0x3f).toInt64.toUInt64).toInt64).toInt32).toInt8.toInt32)), (.int (kv + (4 : Int32))), (.ref b1)]))
  show ownFin _ _ _ _ _ (T37.setTop (mkF m 176 #[.val (.long q1), .second, .val (.int p1), .val (.int p2), .val (.int kv), .val (.ref b1), .unset, .unset, .unset] [(.int (own_y q1 24)), (.int (kv + (4 : Int32))), (.ref b1)]))
  have hk_4 := own_add hk (by decide : (4 : Int32).toInt = ((4 : Nat) : Int)) (by omega)
  refine ownBastore X37 hx hZ e37 A_b1 (own_idx (by decide : (11 : Int32).toInt = 11) (by omega) (by omega)) (k + 4) (own_clamp hk_4) (by simp only [List.length_set, List.length_cons, List.length_nil]; omega) N37 ge_b1 (hb hby at_176) ?_
  intro T38 h38 L38 X38 e38 N38 W38 A_b1
  have E_b1 := E_b1.wr W38
  have Z0 := own_szW Z0 W38
  have A_b1 : Arv Z h38 b1 k_b1 .byte (11 : Int32) ((((([(.int (nar .byte (p2.toInt8.toInt32))), (.int (nar .byte (((p2.toUInt32 >>> ((8 : Int32) &&& 31).toUInt32).toInt32).toInt8.toInt32))), (.int (nar .byte (((p2.toUInt32 >>> ((16 : Int32) &&& 31).toUInt32).toInt32).toInt8.toInt32))), (.int (nar .byte (((p2.toUInt32 >>> ((24 : Int32) &&& 31).toUInt32).toInt32).toInt8.toInt32))), (.int (nar .byte ((p2 ^^^ (-1 : Int32)).toInt8.toInt32))), (.int (nar .byte ((((p2 ^^^ (-1 : Int32)).toUInt32 >>> ((8 : Int32) &&& 31).toUInt32).toInt32).toInt8.toInt32))), (.int (nar .byte ((((p2 ^^^ (-1 : Int32)).toUInt32 >>> ((16 : Int32) &&& 31).toUInt32).toInt32).toInt8.toInt32))), (.int (nar .byte ((((p2 ^^^ (-1 : Int32)).toUInt32 >>> ((24 : Int32) &&& 31).toUInt32).toInt32).toInt8.toInt32))), (.int (nar .byte (p1.toInt8.toInt32))), (.int (nar .byte (((p1.toUInt32 >>> ((8 : Int32) &&& 31).toUInt32).toInt32).toInt8.toInt32))), (.int (nar .byte (((p1.toUInt32 >>> ((16 : Int32) &&& 31).toUInt32).toInt32).toInt8.toInt32)))].set (k) (.int (nar .byte (own_y q1 56)))).set (k + 1) (.int (nar .byte (own_y q1 48)))).set (k + 2) (.int (nar .byte (own_y q1 40)))).set (k + 3) (.int (nar .byte (own_y q1 32)))).set (k + 4) (.int (nar .byte (own_y q1 24)))) (.int (0 : Int32)) := A_b1
  show ownFin _ _ _ _ _ (T38.setTop (mkF m 177 #[.val (.long q1), .second, .val (.int p1), .val (.int p2), .val (.int kv), .val (.ref b1), .unset, .unset, .unset] []))
  refine ownVia (fun _ k => XS.aload X38.here hx rfl (hb hby at_177) rfl rfl k) ?_
  show ownFin _ _ _ _ _ (T38.setTop (mkF m 179 #[.val (.long q1), .second, .val (.int p1), .val (.int p2), .val (.int kv), .val (.ref b1), .unset, .unset, .unset] [(.ref b1)]))
  refine ownVia (fun _ k => XS.iload X38.here hx rfl (hb hby at_179) rfl k) ?_
  show ownFin _ _ _ _ _ (T38.setTop (mkF m 181 #[.val (.long q1), .second, .val (.int p1), .val (.int p2), .val (.int kv), .val (.ref b1), .unset, .unset, .unset] [(.int kv), (.ref b1)]))
  refine ownVia (fun _ k => XS.iconst X38.here hx rfl (hb hby at_181) k) ?_
  show ownFin _ _ _ _ _ (T38.setTop (mkF m 182 #[.val (.long q1), .second, .val (.int p1), .val (.int p2), .val (.int kv), .val (.ref b1), .unset, .unset, .unset] [(.int (5 : Int32)), (.int kv), (.ref b1)]))
  refine ownVia (fun _ k => XS.iadd X38.here hx rfl (hb hby at_182) rfl k) ?_
  show ownFin _ _ _ _ _ (T38.setTop (mkF m 183 #[.val (.long q1), .second, .val (.int p1), .val (.int p2), .val (.int kv), .val (.ref b1), .unset, .unset, .unset] [(.int (kv + (5 : Int32))), (.ref b1)]))
  refine ownVia (fun _ k => XS.lloadN X38.here hx rfl (hb hby at_183) rfl k) ?_
  show ownFin _ _ _ _ _ (T38.setTop (mkF m 184 #[.val (.long q1), .second, .val (.int p1), .val (.int p2), .val (.int kv), .val (.ref b1), .unset, .unset, .unset] [(.long q1), (.int (kv + (5 : Int32))), (.ref b1)]))
  refine ownVia (fun _ k => XS.bipush X38.here hx rfl (hb hby at_184) k) ?_
  show ownFin _ _ _ _ _ (T38.setTop (mkF m 186 #[.val (.long q1), .second, .val (.int p1), .val (.int p2), .val (.int kv), .val (.ref b1), .unset, .unset, .unset] [(.int (16 : Int32)), (.long q1), (.int (kv + (5 : Int32))), (.ref b1)]))
  refine ownVia (fun _ k => XS.lushr X38.here hx rfl (hb hby at_186) rfl k) ?_
  show ownFin _ _ _ _ _ (T38.setTop (mkF m 187 #[.val (.long q1), .second, .val (.int p1), .val (.int p2), .val (.int kv), .val (.ref b1), .unset, .unset, .unset] [(.long ((q1.toUInt64 >>> ((16 : Int32) &&& 0x3f).toInt64.toUInt64).toInt64)), (.int (kv + (5 : Int32))), (.ref b1)]))
  refine ownVia (fun _ k => XS.l2i X38.here hx rfl (hb hby at_187) rfl k) ?_
  show ownFin _ _ _ _ _ (T38.setTop (mkF m 188 #[.val (.long q1), .second, .val (.int p1), .val (.int p2), .val (.int kv), .val (.ref b1), .unset, .unset, .unset] [(.int (((q1.toUInt64 >>> ((16 : Int32) &&& 0x3f).toInt64.toUInt64).toInt64).toInt32)), (.int (kv + (5 : Int32))), (.ref b1)]))
  refine ownVia (fun _ k => XS.i2b X38.here hx rfl (hb hby at_188) rfl k) ?_
  show ownFin _ _ _ _ _ (T38.setTop (mkF m 189 #[.val (.long q1), .second, .val (.int p1), .val (.int p2), .val (.int kv), .val (.ref b1), .unset, .unset, .unset] [(.int ((((q1.toUInt64 >>> ((16 : Int32) &&& 0x3f).toInt64.toUInt64).toInt64).toInt32).toInt8.toInt32)), (.int (kv + (5 : Int32))), (.ref b1)]))
  show ownFin _ _ _ _ _ (T38.setTop (mkF m 189 #[.val (.long q1), .second, .val (.int p1), .val (.int p2), .val (.int kv), .val (.ref b1), .unset, .unset, .unset] [(.int (own_y q1 16)), (.int (kv + (5 : Int32))), (.ref b1)]))
  have hk_5 := own_add hk (by decide : (5 : Int32).toInt = ((5 : Nat) : Int)) (by omega)
  refine ownBastore X38 hx hZ e38 A_b1 (own_idx (by decide : (11 : Int32).toInt = 11) (by omega) (by omega)) (k + 5) (own_clamp hk_5) (by simp only [List.length_set, List.length_cons, List.length_nil]; omega) N38 ge_b1 (hb hby at_189) ?_
  intro T39 h39 L39 X39 e39 N39 W39 A_b1
  have E_b1 := E_b1.wr W39
  have Z0 := own_szW Z0 W39
  have A_b1 : Arv Z h39 b1 k_b1 .byte (11 : Int32) (((((([(.int (nar .byte (p2.toInt8.toInt32))), (.int (nar .byte (((p2.toUInt32 >>> ((8 : Int32) &&& 31).toUInt32).toInt32).toInt8.toInt32))), (.int (nar .byte (((p2.toUInt32 >>> ((16 : Int32) &&& 31).toUInt32).toInt32).toInt8.toInt32))), (.int (nar .byte (((p2.toUInt32 >>> ((24 : Int32) &&& 31).toUInt32).toInt32).toInt8.toInt32))), (.int (nar .byte ((p2 ^^^ (-1 : Int32)).toInt8.toInt32))), (.int (nar .byte ((((p2 ^^^ (-1 : Int32)).toUInt32 >>> ((8 : Int32) &&& 31).toUInt32).toInt32).toInt8.toInt32))), (.int (nar .byte ((((p2 ^^^ (-1 : Int32)).toUInt32 >>> ((16 : Int32) &&& 31).toUInt32).toInt32).toInt8.toInt32))), (.int (nar .byte ((((p2 ^^^ (-1 : Int32)).toUInt32 >>> ((24 : Int32) &&& 31).toUInt32).toInt32).toInt8.toInt32))), (.int (nar .byte (p1.toInt8.toInt32))), (.int (nar .byte (((p1.toUInt32 >>> ((8 : Int32) &&& 31).toUInt32).toInt32).toInt8.toInt32))), (.int (nar .byte (((p1.toUInt32 >>> ((16 : Int32) &&& 31).toUInt32).toInt32).toInt8.toInt32)))].set (k) (.int (nar .byte (own_y q1 56)))).set (k + 1) (.int (nar .byte (own_y q1 48)))).set (k + 2) (.int (nar .byte (own_y q1 40)))).set (k + 3) (.int (nar .byte (own_y q1 32)))).set (k + 4) (.int (nar .byte (own_y q1 24)))).set (k + 5) (.int (nar .byte (own_y q1 16)))) (.int (0 : Int32)) := A_b1
  show ownFin _ _ _ _ _ (T39.setTop (mkF m 190 #[.val (.long q1), .second, .val (.int p1), .val (.int p2), .val (.int kv), .val (.ref b1), .unset, .unset, .unset] []))
  refine ownVia (fun _ k => XS.aload X39.here hx rfl (hb hby at_190) rfl rfl k) ?_
  show ownFin _ _ _ _ _ (T39.setTop (mkF m 192 #[.val (.long q1), .second, .val (.int p1), .val (.int p2), .val (.int kv), .val (.ref b1), .unset, .unset, .unset] [(.ref b1)]))
  refine ownVia (fun _ k => XS.iload X39.here hx rfl (hb hby at_192) rfl k) ?_
  show ownFin _ _ _ _ _ (T39.setTop (mkF m 194 #[.val (.long q1), .second, .val (.int p1), .val (.int p2), .val (.int kv), .val (.ref b1), .unset, .unset, .unset] [(.int kv), (.ref b1)]))
  refine ownVia (fun _ k => XS.bipush X39.here hx rfl (hb hby at_194) k) ?_
  show ownFin _ _ _ _ _ (T39.setTop (mkF m 196 #[.val (.long q1), .second, .val (.int p1), .val (.int p2), .val (.int kv), .val (.ref b1), .unset, .unset, .unset] [(.int (6 : Int32)), (.int kv), (.ref b1)]))
  refine ownVia (fun _ k => XS.iadd X39.here hx rfl (hb hby at_196) rfl k) ?_
  show ownFin _ _ _ _ _ (T39.setTop (mkF m 197 #[.val (.long q1), .second, .val (.int p1), .val (.int p2), .val (.int kv), .val (.ref b1), .unset, .unset, .unset] [(.int (kv + (6 : Int32))), (.ref b1)]))
  refine ownVia (fun _ k => XS.lloadN X39.here hx rfl (hb hby at_197) rfl k) ?_
  show ownFin _ _ _ _ _ (T39.setTop (mkF m 198 #[.val (.long q1), .second, .val (.int p1), .val (.int p2), .val (.int kv), .val (.ref b1), .unset, .unset, .unset] [(.long q1), (.int (kv + (6 : Int32))), (.ref b1)]))
  refine ownVia (fun _ k => XS.bipush X39.here hx rfl (hb hby at_198) k) ?_
  show ownFin _ _ _ _ _ (T39.setTop (mkF m 200 #[.val (.long q1), .second, .val (.int p1), .val (.int p2), .val (.int kv), .val (.ref b1), .unset, .unset, .unset] [(.int (8 : Int32)), (.long q1), (.int (kv + (6 : Int32))), (.ref b1)]))
  refine ownVia (fun _ k => XS.lushr X39.here hx rfl (hb hby at_200) rfl k) ?_
  show ownFin _ _ _ _ _ (T39.setTop (mkF m 201 #[.val (.long q1), .second, .val (.int p1), .val (.int p2), .val (.int kv), .val (.ref b1), .unset, .unset, .unset] [(.long ((q1.toUInt64 >>> ((8 : Int32) &&& 0x3f).toInt64.toUInt64).toInt64)), (.int (kv + (6 : Int32))), (.ref b1)]))
  refine ownVia (fun _ k => XS.l2i X39.here hx rfl (hb hby at_201) rfl k) ?_
  show ownFin _ _ _ _ _ (T39.setTop (mkF m 202 #[.val (.long q1), .second, .val (.int p1), .val (.int p2), .val (.int kv), .val (.ref b1), .unset, .unset, .unset] [(.int (((q1.toUInt64 >>> ((8 : Int32) &&& 0x3f).toInt64.toUInt64).toInt64).toInt32)), (.int (kv + (6 : Int32))), (.ref b1)]))
  refine ownVia (fun _ k => XS.i2b X39.here hx rfl (hb hby at_202) rfl k) ?_
  show ownFin _ _ _ _ _ (T39.setTop (mkF m 203 #[.val (.long q1), .second, .val (.int p1), .val (.int p2), .val (.int kv), .val (.ref b1), .unset, .unset, .unset] [(.int ((((q1.toUInt64 >>> ((8 : Int32) &&& 0x3f).toInt64.toUInt64).toInt64).toInt32).toInt8.toInt32)), (.int (kv + (6 : Int32))), (.ref b1)]))
  show ownFin _ _ _ _ _ (T39.setTop (mkF m 203 #[.val (.long q1), .second, .val (.int p1), .val (.int p2), .val (.int kv), .val (.ref b1), .unset, .unset, .unset] [(.int (own_y q1 8)), (.int (kv + (6 : Int32))), (.ref b1)]))
  have hk_6 := own_add hk (by decide : (6 : Int32).toInt = ((6 : Nat) : Int)) (by omega)
  refine ownBastore X39 hx hZ e39 A_b1 (own_idx (by decide : (11 : Int32).toInt = 11) (by omega) (by omega)) (k + 6) (own_clamp hk_6) (by simp only [List.length_set, List.length_cons, List.length_nil]; omega) N39 ge_b1 (hb hby at_203) ?_
  intro T40 h40 L40 X40 e40 N40 W40 A_b1
  have E_b1 := E_b1.wr W40
  have Z0 := own_szW Z0 W40
  have A_b1 : Arv Z h40 b1 k_b1 .byte (11 : Int32) ((((((([(.int (nar .byte (p2.toInt8.toInt32))), (.int (nar .byte (((p2.toUInt32 >>> ((8 : Int32) &&& 31).toUInt32).toInt32).toInt8.toInt32))), (.int (nar .byte (((p2.toUInt32 >>> ((16 : Int32) &&& 31).toUInt32).toInt32).toInt8.toInt32))), (.int (nar .byte (((p2.toUInt32 >>> ((24 : Int32) &&& 31).toUInt32).toInt32).toInt8.toInt32))), (.int (nar .byte ((p2 ^^^ (-1 : Int32)).toInt8.toInt32))), (.int (nar .byte ((((p2 ^^^ (-1 : Int32)).toUInt32 >>> ((8 : Int32) &&& 31).toUInt32).toInt32).toInt8.toInt32))), (.int (nar .byte ((((p2 ^^^ (-1 : Int32)).toUInt32 >>> ((16 : Int32) &&& 31).toUInt32).toInt32).toInt8.toInt32))), (.int (nar .byte ((((p2 ^^^ (-1 : Int32)).toUInt32 >>> ((24 : Int32) &&& 31).toUInt32).toInt32).toInt8.toInt32))), (.int (nar .byte (p1.toInt8.toInt32))), (.int (nar .byte (((p1.toUInt32 >>> ((8 : Int32) &&& 31).toUInt32).toInt32).toInt8.toInt32))), (.int (nar .byte (((p1.toUInt32 >>> ((16 : Int32) &&& 31).toUInt32).toInt32).toInt8.toInt32)))].set (k) (.int (nar .byte (own_y q1 56)))).set (k + 1) (.int (nar .byte (own_y q1 48)))).set (k + 2) (.int (nar .byte (own_y q1 40)))).set (k + 3) (.int (nar .byte (own_y q1 32)))).set (k + 4) (.int (nar .byte (own_y q1 24)))).set (k + 5) (.int (nar .byte (own_y q1 16)))).set (k + 6) (.int (nar .byte (own_y q1 8)))) (.int (0 : Int32)) := A_b1
  show ownFin _ _ _ _ _ (T40.setTop (mkF m 204 #[.val (.long q1), .second, .val (.int p1), .val (.int p2), .val (.int kv), .val (.ref b1), .unset, .unset, .unset] []))
  refine ownVia (fun _ k => XS.aload X40.here hx rfl (hb hby at_204) rfl rfl k) ?_
  show ownFin _ _ _ _ _ (T40.setTop (mkF m 206 #[.val (.long q1), .second, .val (.int p1), .val (.int p2), .val (.int kv), .val (.ref b1), .unset, .unset, .unset] [(.ref b1)]))
  refine ownVia (fun _ k => XS.iload X40.here hx rfl (hb hby at_206) rfl k) ?_
  show ownFin _ _ _ _ _ (T40.setTop (mkF m 208 #[.val (.long q1), .second, .val (.int p1), .val (.int p2), .val (.int kv), .val (.ref b1), .unset, .unset, .unset] [(.int kv), (.ref b1)]))
  refine ownVia (fun _ k => XS.bipush X40.here hx rfl (hb hby at_208) k) ?_
  show ownFin _ _ _ _ _ (T40.setTop (mkF m 210 #[.val (.long q1), .second, .val (.int p1), .val (.int p2), .val (.int kv), .val (.ref b1), .unset, .unset, .unset] [(.int (7 : Int32)), (.int kv), (.ref b1)]))
  refine ownVia (fun _ k => XS.iadd X40.here hx rfl (hb hby at_210) rfl k) ?_
  show ownFin _ _ _ _ _ (T40.setTop (mkF m 211 #[.val (.long q1), .second, .val (.int p1), .val (.int p2), .val (.int kv), .val (.ref b1), .unset, .unset, .unset] [(.int (kv + (7 : Int32))), (.ref b1)]))
  refine ownVia (fun _ k => XS.lloadN X40.here hx rfl (hb hby at_211) rfl k) ?_
  show ownFin _ _ _ _ _ (T40.setTop (mkF m 212 #[.val (.long q1), .second, .val (.int p1), .val (.int p2), .val (.int kv), .val (.ref b1), .unset, .unset, .unset] [(.long q1), (.int (kv + (7 : Int32))), (.ref b1)]))
  refine ownVia (fun _ k => XS.l2i X40.here hx rfl (hb hby at_212) rfl k) ?_
  show ownFin _ _ _ _ _ (T40.setTop (mkF m 213 #[.val (.long q1), .second, .val (.int p1), .val (.int p2), .val (.int kv), .val (.ref b1), .unset, .unset, .unset] [(.int (q1.toInt32)), (.int (kv + (7 : Int32))), (.ref b1)]))
  refine ownVia (fun _ k => XS.i2b X40.here hx rfl (hb hby at_213) rfl k) ?_
  show ownFin _ _ _ _ _ (T40.setTop (mkF m 214 #[.val (.long q1), .second, .val (.int p1), .val (.int p2), .val (.int kv), .val (.ref b1), .unset, .unset, .unset] [(.int ((q1.toInt32).toInt8.toInt32)), (.int (kv + (7 : Int32))), (.ref b1)]))
  show ownFin _ _ _ _ _ (T40.setTop (mkF m 214 #[.val (.long q1), .second, .val (.int p1), .val (.int p2), .val (.int kv), .val (.ref b1), .unset, .unset, .unset] [(.int (own_y0 q1)), (.int (kv + (7 : Int32))), (.ref b1)]))
  have hk_7 := own_add hk (by decide : (7 : Int32).toInt = ((7 : Nat) : Int)) (by omega)
  refine ownBastore X40 hx hZ e40 A_b1 (own_idx (by decide : (11 : Int32).toInt = 11) (by omega) (by omega)) (k + 7) (own_clamp hk_7) (by simp only [List.length_set, List.length_cons, List.length_nil]; omega) N40 ge_b1 (hb hby at_214) ?_
  intro T41 h41 L41 X41 e41 N41 W41 A_b1
  have E_b1 := E_b1.wr W41
  have Z0 := own_szW Z0 W41
  have A_b1 : Arv Z h41 b1 k_b1 .byte (11 : Int32) (((((((([(.int (nar .byte (p2.toInt8.toInt32))), (.int (nar .byte (((p2.toUInt32 >>> ((8 : Int32) &&& 31).toUInt32).toInt32).toInt8.toInt32))), (.int (nar .byte (((p2.toUInt32 >>> ((16 : Int32) &&& 31).toUInt32).toInt32).toInt8.toInt32))), (.int (nar .byte (((p2.toUInt32 >>> ((24 : Int32) &&& 31).toUInt32).toInt32).toInt8.toInt32))), (.int (nar .byte ((p2 ^^^ (-1 : Int32)).toInt8.toInt32))), (.int (nar .byte ((((p2 ^^^ (-1 : Int32)).toUInt32 >>> ((8 : Int32) &&& 31).toUInt32).toInt32).toInt8.toInt32))), (.int (nar .byte ((((p2 ^^^ (-1 : Int32)).toUInt32 >>> ((16 : Int32) &&& 31).toUInt32).toInt32).toInt8.toInt32))), (.int (nar .byte ((((p2 ^^^ (-1 : Int32)).toUInt32 >>> ((24 : Int32) &&& 31).toUInt32).toInt32).toInt8.toInt32))), (.int (nar .byte (p1.toInt8.toInt32))), (.int (nar .byte (((p1.toUInt32 >>> ((8 : Int32) &&& 31).toUInt32).toInt32).toInt8.toInt32))), (.int (nar .byte (((p1.toUInt32 >>> ((16 : Int32) &&& 31).toUInt32).toInt32).toInt8.toInt32)))].set (k) (.int (nar .byte (own_y q1 56)))).set (k + 1) (.int (nar .byte (own_y q1 48)))).set (k + 2) (.int (nar .byte (own_y q1 40)))).set (k + 3) (.int (nar .byte (own_y q1 32)))).set (k + 4) (.int (nar .byte (own_y q1 24)))).set (k + 5) (.int (nar .byte (own_y q1 16)))).set (k + 6) (.int (nar .byte (own_y q1 8)))).set (k + 7) (.int (nar .byte (own_y0 q1)))) (.int (0 : Int32)) := A_b1
  show ownFin _ _ _ _ _ (T41.setTop (mkF m 215 #[.val (.long q1), .second, .val (.int p1), .val (.int p2), .val (.int kv), .val (.ref b1), .unset, .unset, .unset] []))
  generalize hVS : ((((((((([(.int (nar .byte (p2.toInt8.toInt32))), (.int (nar .byte (((p2.toUInt32 >>> ((8 : Int32) &&& 31).toUInt32).toInt32).toInt8.toInt32))), (.int (nar .byte (((p2.toUInt32 >>> ((16 : Int32) &&& 31).toUInt32).toInt32).toInt8.toInt32))), (.int (nar .byte (((p2.toUInt32 >>> ((24 : Int32) &&& 31).toUInt32).toInt32).toInt8.toInt32))), (.int (nar .byte ((p2 ^^^ (-1 : Int32)).toInt8.toInt32))), (.int (nar .byte ((((p2 ^^^ (-1 : Int32)).toUInt32 >>> ((8 : Int32) &&& 31).toUInt32).toInt32).toInt8.toInt32))), (.int (nar .byte ((((p2 ^^^ (-1 : Int32)).toUInt32 >>> ((16 : Int32) &&& 31).toUInt32).toInt32).toInt8.toInt32))), (.int (nar .byte ((((p2 ^^^ (-1 : Int32)).toUInt32 >>> ((24 : Int32) &&& 31).toUInt32).toInt32).toInt8.toInt32))), (.int (nar .byte (p1.toInt8.toInt32))), (.int (nar .byte (((p1.toUInt32 >>> ((8 : Int32) &&& 31).toUInt32).toInt32).toInt8.toInt32))), (.int (nar .byte (((p1.toUInt32 >>> ((16 : Int32) &&& 31).toUInt32).toInt32).toInt8.toInt32)))].set (k) (.int (nar .byte (own_y q1 56)))).set (k + 1) (.int (nar .byte (own_y q1 48)))).set (k + 2) (.int (nar .byte (own_y q1 40)))).set (k + 3) (.int (nar .byte (own_y q1 32)))).set (k + 4) (.int (nar .byte (own_y q1 24)))).set (k + 5) (.int (nar .byte (own_y q1 16)))).set (k + 6) (.int (nar .byte (own_y q1 8)))).set (k + 7) (.int (nar .byte (own_y0 q1)))) : List Value) = VS at A_b1
  obtain ⟨T42, h42, X42, e42, E42, A42, D42, -, st42⟩ := newO X41 hx hZ hown (hw _ (List.mem_of_getElem? (i := 1) rfl)) (hw _ (List.mem_of_getElem? (i := 2) rfl)) (hw _ (List.mem_of_getElem? (i := 3) rfl)) e41 (g := (mkF m 215 #[.val (.long q1), .second, .val (.int p1), .val (.int p2), .val (.int kv), .val (.ref b1), .unset, .unset, .unset] [])) rfl (hb hby at_215) (by decide) (by decide)
  obtain ⟨b2, g42⟩ : ∃ z, z = h41.size := ⟨_, rfl⟩
  rw [← g42] at A42 D42 st42
  have ne_b1_b2 : b1 ≠ b2 := Nat.ne_of_lt (Nat.lt_of_lt_of_le A_b1.lt (Nat.le_of_eq g42.symm))
  have ge_b2 : n0 ≤ b2 := Nat.le_trans Z0 (Nat.le_of_eq g42.symm)
  have A_b1 := A_b1.ext E42
  have E_b1 := E_b1.ext E42
  have Z0 := own_sz Z0 E42
  have E_b2 := A42
  have F_b2_bytes : Fld Z h42 b2 "com/example/laiskas/laiskas/protocol/Decoder" "bytes" "[B" .null := D42 (Or.inr (hw _ (List.mem_of_getElem? (i := 11) rfl))) (ty := (.array .byte)) (by decide)
  have F_b2_position : Fld Z h42 b2 "com/example/laiskas/laiskas/protocol/Decoder" "position" "I" (.int (0 : Int32)) := D42 (Or.inl (hw _ (List.mem_of_getElem? (i := 22) rfl))) (ty := .int) (by decide)
  refine ownVia st42 ?_
  show ownFin _ _ _ _ _ (T42.setTop (mkF m 218 #[.val (.long q1), .second, .val (.int p1), .val (.int p2), .val (.int kv), .val (.ref b1), .unset, .unset, .unset] [(.ref b2)]))
  refine ownVia (fun _ k => XS.dup X42.here hx rfl (hb hby at_218) rfl rfl k) ?_
  show ownFin _ _ _ _ _ (T42.setTop (mkF m 219 #[.val (.long q1), .second, .val (.int p1), .val (.int p2), .val (.int kv), .val (.ref b1), .unset, .unset, .unset] [(.ref b2), (.ref b2)]))
  refine ownVia (fun _ k => XS.aload X42.here hx rfl (hb hby at_219) rfl rfl k) ?_
  show ownFin _ _ _ _ _ (T42.setTop (mkF m 221 #[.val (.long q1), .second, .val (.int p1), .val (.int p2), .val (.int kv), .val (.ref b1), .unset, .unset, .unset] [(.ref b1), (.ref b2), (.ref b2)]))
  refine ownCallN X42 hx hZ hown rfl (hw _ (List.mem_of_getElem? (i := 4) rfl)) (hw _ (List.mem_of_getElem? (i := 5) rfl)) (hw _ (List.mem_of_getElem? (i := 3) rfl)) (hw _ (List.mem_of_getElem? (i := 6) rfl)) (by decide) e42 (own_init l Z a0 hw b2 b1 h42 n0 Z0 F_b2_bytes F_b2_position E_b2 ge_b2) (by rw [hml]; rfl) b2 [(.ref b1)] [(.ref b2)] (lenOf own_pd1 rfl) rfl rfl 1 rfl (hb hby at_221) (by decide) (by decide) (by decide) (by decide) ?_
  intro v43 T43 L43 X43 hq43
  obtain ⟨rfl, N43q, K43, F_b2_bytes, F_b2_position⟩ := hq43
  have A_b1 := A_b1.keep K43 (ninS ne_b1_b2 nin0)
  have E_b1 := E_b1.keep K43
  have E_b2 := E_b2.keep K43
  have Z0 := Nat.le_trans Z0 K43.1
  have N43 := Fr.app N41 N43q
  show ownFin _ _ _ _ _ (T43.setTop (mkF m 224 #[.val (.long q1), .second, .val (.int p1), .val (.int p2), .val (.int kv), .val (.ref b1), .unset, .unset, .unset] [(.ref b2)]))
  refine ownVia (fun _ k => XS.astore X43.here hx rfl (hb hby at_224) rfl rfl (l' := #[.val (.long q1), .second, .val (.int p1), .val (.int p2), .val (.int kv), .val (.ref b1), .val (.ref b2), .unset, .unset]) rfl k) ?_
  show ownFin _ _ _ _ _ (T43.setTop (mkF m 226 #[.val (.long q1), .second, .val (.int p1), .val (.int p2), .val (.int kv), .val (.ref b1), .val (.ref b2), .unset, .unset] []))
  refine ownVia (fun _ k => XS.aload X43.here hx rfl (hb hby at_226) rfl rfl k) ?_
  show ownFin _ _ _ _ _ (T43.setTop (mkF m 228 #[.val (.long q1), .second, .val (.int p1), .val (.int p2), .val (.int kv), .val (.ref b1), .val (.ref b2), .unset, .unset] [(.ref b2)]))
  refine ownVia (fun _ k => XS.iload X43.here hx rfl (hb hby at_228) rfl k) ?_
  show ownFin _ _ _ _ _ (T43.setTop (mkF m 230 #[.val (.long q1), .second, .val (.int p1), .val (.int p2), .val (.int kv), .val (.ref b1), .val (.ref b2), .unset, .unset] [(.int kv), (.ref b2)]))
  refine ownCallV X43 hx hZ hown (hw _ (List.mem_of_getElem? (i := 12) rfl)) (hw _ (List.mem_of_getElem? (i := 13) rfl)) (hw _ (List.mem_of_getElem? (i := 15) rfl)) (hw _ (List.mem_of_getElem? (i := 15) rfl)) (hw _ (List.mem_of_getElem? (i := 14) rfl)) (hw _ (List.mem_of_getElem? (i := 3) rfl)) (hw _ (List.mem_of_getElem? (i := 16) rfl)) (by decide) (rfl : T43.heap = T43.heap) E_b2 (own_skip l Z a0 hw b2 kv T43.heap n0 b1 k_b1 (11 : Int32) (0 : Int32) VS (.int (0 : Int32)) Z0 F_b2_bytes F_b2_position E_b2 A_b1 (Ne.symm ne_b1_b2) ge_b2 (own_nlt (by decide : ((11 : Int32) - (0 : Int32)).toInt = 11) hk (by omega))) (by rw [hml]; rfl) [(.int kv)] [] (lenOf own_pd0 rfl) rfl rfl 0 rfl (hb hby at_230) (by decide) (by decide) (by decide) (by decide) ?_
  intro v44 T44 L44 X44 hq44
  obtain ⟨rfl, N44q, K44, F_b2_bytes, F_b2_position⟩ := hq44
  have A_b1 := A_b1.keep K44 (ninS ne_b1_b2 nin0)
  have E_b1 := E_b1.keep K44
  have E_b2 := E_b2.keep K44
  have Z0 := Nat.le_trans Z0 K44.1
  rw [(Int32.zero_add kv : ((0 : Int32) + kv) = kv)] at F_b2_position
  have N44 := Fr.app N43 N44q
  show ownFin _ _ _ _ _ (T44.setTop (mkF m 233 #[.val (.long q1), .second, .val (.int p1), .val (.int p2), .val (.int kv), .val (.ref b1), .val (.ref b2), .unset, .unset] []))
  refine ownVia (fun _ k => XS.aload X44.here hx rfl (hb hby at_233) rfl rfl k) ?_
  show ownFin _ _ _ _ _ (T44.setTop (mkF m 235 #[.val (.long q1), .second, .val (.int p1), .val (.int p2), .val (.int kv), .val (.ref b1), .val (.ref b2), .unset, .unset] [(.ref b2)]))
  refine ownCallV X44 hx hZ hown (hw _ (List.mem_of_getElem? (i := 23) rfl)) (hw _ (List.mem_of_getElem? (i := 24) rfl)) (hw _ (List.mem_of_getElem? (i := 26) rfl)) (hw _ (List.mem_of_getElem? (i := 26) rfl)) (hw _ (List.mem_of_getElem? (i := 25) rfl)) (hw _ (List.mem_of_getElem? (i := 3) rfl)) (hw _ (List.mem_of_getElem? (i := 27) rfl)) (by decide) (rfl : T44.heap = T44.heap) E_b2 (own_int64 l Z a0 hw b2 T44.heap n0 b1 k_b1 (11 : Int32) kv VS k 11 (own_ob q1 8) Z0 F_b2_bytes F_b2_position E_b2 A_b1 (Ne.symm ne_b1_b2) ge_b2 hk (by decide) rfl (by omega) (by decide) (fun j hj => by rw [← hVS]; exact own_puts _ _ _ _ _ _ _ _ _ _ _ _ _ _ _ _ _ _ _ hk3 hj)) (by rw [hml]; rfl) [] [] (lenOf own_pd2 rfl) rfl rfl 0 rfl (hb hby at_235) (by decide) (by decide) (by decide) (by decide) ?_
  intro v45 T45 L45 X45 hq45
  obtain ⟨rfl, N45q, K45, F_b2_bytes, F_b2_position⟩ := hq45
  have A_b1 := A_b1.keep K45 (ninS ne_b1_b2 nin0)
  have E_b1 := E_b1.keep K45
  have E_b2 := E_b2.keep K45
  have Z0 := Nat.le_trans Z0 K45.1
  have N45 := Fr.app N44 N45q
  show ownFin _ _ _ _ _ (T45.setTop (mkF m 238 #[.val (.long q1), .second, .val (.int p1), .val (.int p2), .val (.int kv), .val (.ref b1), .val (.ref b2), .unset, .unset] [(.long (own_num (own_ob q1 8)))]))
  refine ownVia (fun _ k => XS.lstore X45.here hx rfl (hb hby at_238) rfl (l' := #[.val (.long q1), .second, .val (.int p1), .val (.int p2), .val (.int kv), .val (.ref b1), .val (.ref b2), .val (.long (own_num (own_ob q1 8))), .second]) rfl k) ?_
  show ownFin _ _ _ _ _ (T45.setTop (mkF m 240 #[.val (.long q1), .second, .val (.int p1), .val (.int p2), .val (.int kv), .val (.ref b1), .val (.ref b2), .val (.long (own_num (own_ob q1 8))), .second] []))
  refine ownVia (fun _ k => XS.aload X45.here hx rfl (hb hby at_240) rfl rfl k) ?_
  show ownFin _ _ _ _ _ (T45.setTop (mkF m 242 #[.val (.long q1), .second, .val (.int p1), .val (.int p2), .val (.int kv), .val (.ref b1), .val (.ref b2), .val (.long (own_num (own_ob q1 8))), .second] [(.ref b2)]))
  refine ownVia (fun _ k => XS.iconst X45.here hx rfl (hb hby at_242) k) ?_
  show ownFin _ _ _ _ _ (T45.setTop (mkF m 243 #[.val (.long q1), .second, .val (.int p1), .val (.int p2), .val (.int kv), .val (.ref b1), .val (.ref b2), .val (.long (own_num (own_ob q1 8))), .second] [(.int (3 : Int32)), (.ref b2)]))
  refine ownVia (fun _ k => XS.iload X45.here hx rfl (hb hby at_243) rfl k) ?_
  show ownFin _ _ _ _ _ (T45.setTop (mkF m 245 #[.val (.long q1), .second, .val (.int p1), .val (.int p2), .val (.int kv), .val (.ref b1), .val (.ref b2), .val (.long (own_num (own_ob q1 8))), .second] [(.int kv), (.int (3 : Int32)), (.ref b2)]))
  refine ownVia (fun _ k => XS.isub X45.here hx rfl (hb hby at_245) rfl k) ?_
  show ownFin _ _ _ _ _ (T45.setTop (mkF m 246 #[.val (.long q1), .second, .val (.int p1), .val (.int p2), .val (.int kv), .val (.ref b1), .val (.ref b2), .val (.long (own_num (own_ob q1 8))), .second] [(.int ((3 : Int32) - kv)), (.ref b2)]))
  have hk8 := own_add hk (by decide : (8 : Int32).toInt = ((8 : Nat) : Int)) (by omega)
  have h3k := own_sub (by decide : (3 : Int32).toInt = ((3 : Nat) : Int)) hk hk3
  have hend : (kv + (8 : Int32)) + ((3 : Int32) - kv) = (11 : Int32) := Int32.toInt_inj.mp (by rw [own_add hk8 h3k (by omega), (by decide : (11 : Int32).toInt = 11)]; omega)
  refine ownCallV X45 hx hZ hown (hw _ (List.mem_of_getElem? (i := 12) rfl)) (hw _ (List.mem_of_getElem? (i := 13) rfl)) (hw _ (List.mem_of_getElem? (i := 15) rfl)) (hw _ (List.mem_of_getElem? (i := 15) rfl)) (hw _ (List.mem_of_getElem? (i := 14) rfl)) (hw _ (List.mem_of_getElem? (i := 3) rfl)) (hw _ (List.mem_of_getElem? (i := 16) rfl)) (by decide) (rfl : T45.heap = T45.heap) E_b2 (own_skip l Z a0 hw b2 ((3 : Int32) - kv) T45.heap n0 b1 k_b1 (11 : Int32) (kv + (8 : Int32)) VS (.int (0 : Int32)) Z0 F_b2_bytes F_b2_position E_b2 A_b1 (Ne.symm ne_b1_b2) ge_b2 (own_nlt (own_sub (by decide : (11 : Int32).toInt = ((11 : Nat) : Int)) hk8 (by omega)) h3k (by omega))) (by rw [hml]; rfl) [(.int ((3 : Int32) - kv))] [] (lenOf own_pd0 rfl) rfl rfl 0 rfl (hb hby at_246) (by decide) (by decide) (by decide) (by decide) ?_
  intro v46 T46 L46 X46 hq46
  obtain ⟨rfl, N46q, K46, F_b2_bytes, F_b2_position⟩ := hq46
  have A_b1 := A_b1.keep K46 (ninS ne_b1_b2 nin0)
  have E_b1 := E_b1.keep K46
  have E_b2 := E_b2.keep K46
  have Z0 := Nat.le_trans Z0 K46.1
  rw [hend] at F_b2_position
  have N46 := Fr.app N45 N46q
  show ownFin _ _ _ _ _ (T46.setTop (mkF m 249 #[.val (.long q1), .second, .val (.int p1), .val (.int p2), .val (.int kv), .val (.ref b1), .val (.ref b2), .val (.long (own_num (own_ob q1 8))), .second] []))
  refine ownVia (fun _ k => XS.lload X46.here hx rfl (hb hby at_249) rfl k) ?_
  show ownFin _ _ _ _ _ (T46.setTop (mkF m 251 #[.val (.long q1), .second, .val (.int p1), .val (.int p2), .val (.int kv), .val (.ref b1), .val (.ref b2), .val (.long (own_num (own_ob q1 8))), .second] [(.long (own_num (own_ob q1 8)))]))
  refine ownVia (fun _ k => XS.lloadN X46.here hx rfl (hb hby at_251) rfl k) ?_
  show ownFin _ _ _ _ _ (T46.setTop (mkF m 252 #[.val (.long q1), .second, .val (.int p1), .val (.int p2), .val (.int kv), .val (.ref b1), .val (.ref b2), .val (.long (own_num (own_ob q1 8))), .second] [(.long q1), (.long (own_num (own_ob q1 8)))]))
  refine ownVia (fun _ k => XS.lcmp X46.here hx rfl (hb hby at_252) rfl k) ?_
  show ownFin _ _ _ _ _ (T46.setTop (mkF m 253 #[.val (.long q1), .second, .val (.int p1), .val (.int p2), .val (.int kv), .val (.ref b1), .val (.ref b2), .val (.long (own_num (own_ob q1 8))), .second] [(.int (lcmpW (own_num (own_ob q1 8)) q1))]))
  refine ownVia (fun _ k => XS.ifNo X46.here hx rfl (hb hby at_253) rfl ((if0 _ _).trans (teq ((lw_eq _ _).mpr (own_fin8 q1))).2) k) ?_
  show ownFin _ _ _ _ _ (T46.setTop (mkF m 256 #[.val (.long q1), .second, .val (.int p1), .val (.int p2), .val (.int kv), .val (.ref b1), .val (.ref b2), .val (.long (own_num (own_ob q1 8))), .second] []))
  refine ownVia (fun _ k => XS.aload X46.here hx rfl (hb hby at_256) rfl rfl k) ?_
  show ownFin _ _ _ _ _ (T46.setTop (mkF m 258 #[.val (.long q1), .second, .val (.int p1), .val (.int p2), .val (.int kv), .val (.ref b1), .val (.ref b2), .val (.long (own_num (own_ob q1 8))), .second] [(.ref b2)]))
  refine ownCallV X46 hx hZ hown (hw _ (List.mem_of_getElem? (i := 28) rfl)) (hw _ (List.mem_of_getElem? (i := 29) rfl)) (hw _ (List.mem_of_getElem? (i := 31) rfl)) (hw _ (List.mem_of_getElem? (i := 31) rfl)) (hw _ (List.mem_of_getElem? (i := 30) rfl)) (hw _ (List.mem_of_getElem? (i := 3) rfl)) (hw _ (List.mem_of_getElem? (i := 32) rfl)) (by decide) (rfl : T46.heap = T46.heap) E_b2 (own_atend l Z a0 hw b2 T46.heap n0 b1 k_b1 (11 : Int32) (11 : Int32) VS (.int (0 : Int32)) Z0 F_b2_bytes F_b2_position E_b2 A_b1 (Ne.symm ne_b1_b2)) (by rw [hml]; rfl) [] [] (lenOf own_pd3 rfl) rfl rfl 0 rfl (hb hby at_258) (by decide) (by decide) (by decide) (by decide) ?_
  intro v47 T47 L47 X47 hq47
  obtain ⟨rfl, N47q, eq47⟩ := hq47
  have N47 := Fr.app N46 N47q
  have e47 : T47.heap = T46.heap := eq47
  show ownFin _ _ _ _ _ (T47.setTop (mkF m 261 #[.val (.long q1), .second, .val (.int p1), .val (.int p2), .val (.int kv), .val (.ref b1), .val (.ref b2), .val (.long (own_num (own_ob q1 8))), .second] [(.int (own_ae (11 : Int32) (11 : Int32)))]))
  refine ownVia (fun _ k => XS.ifNo X47.here hx rfl (hb hby at_261) rfl ((if0 _ _).trans (feq (by rw [own_ae1 rfl]; decide)).1) k) ?_
  show ownFin _ _ _ _ _ (T47.setTop (mkF m 264 #[.val (.long q1), .second, .val (.int p1), .val (.int p2), .val (.int kv), .val (.ref b1), .val (.ref b2), .val (.long (own_num (own_ob q1 8))), .second] []))
  refine ownVia (fun _ k => XS.iconst X47.here hx rfl (hb hby at_264) k) ?_
  show ownFin _ _ _ _ _ (T47.setTop (mkF m 265 #[.val (.long q1), .second, .val (.int p1), .val (.int p2), .val (.int kv), .val (.ref b1), .val (.ref b2), .val (.long (own_num (own_ob q1 8))), .second] [(.int (1 : Int32))]))
  refine ownVia (fun _ k => XS.goto X47.here hx rfl (pc0 := 265) (pc' := 269) rfl (hb hby at_265) (by decide) (by decide) k) ?_
  show ownFin _ _ _ _ _ (T47.setTop (mkF m 269 #[.val (.long q1), .second, .val (.int p1), .val (.int p2), .val (.int kv), .val (.ref b1), .val (.ref b2), .val (.long (own_num (own_ob q1 8))), .second] [(.int (1 : Int32))]))
  refine ownRetZ X47 hx hlk hret (hb hby at_269) (by decide) (by decide) (Or.inr rfl) ?_
  show (Q_own_law Z q1 p1 p2 h0 n0 ) (some (.int (1 : Int32))) T47.heap _
  rw [e47]
  exact ⟨rfl, N47⟩
set_option maxRecDepth 65536 in
set_option maxHeartbeats 40000000 in
theorem own_comes {Post : Tables → Env → Array Value → State → Outcome → State → Prop} (hpost : ∀ tb e args s v u, (limb_1_1.after args s (.returned v) u = true ∧ limb_1_2.after args s (.returned v) u = true ∧ True) → FrameEnd s (.returned v) u (Jvm.fieldLocs frame_1_writes args s ++ Jvm.arrayLocs frame_1_arrays args s ++ Jvm.staticLocs frame_1_statics s) 16 128 → Post tb e args s (.returned v) u) :
    ArmFor flags0 classFile x code maxLocals ret World_1 tables_1 room_1 Calls_1 rest_1 Pre_1 Post := by
  intro l hfl _ _ p e ha hc hk s m args below hf hA hF happ hP
  obtain ⟨hcalls, hrest, hpre⟩ := hP
  obtain ⟨-, -, -, hnamed, -, -, -, hat⟩ := (Spec.applies_iff hf).mp happ
  obtain ⟨hg, hn⟩ := and_e (Cond.before_iff.mp (show (Jvm.Cond.and given_1 narrow_1).before args s = true from hpre))
  obtain ⟨hcount, hg0⟩ := and_e hg
  obtain ⟨w0, w1, w2, rfl⟩ : ∃ w0 w1 w2 : Value, args = #[w0, w1, w2] := by
    have hs : args.size = 3 := by simpa [Cond.value, given_1] using hcount
    obtain ⟨L⟩ := args
    match L, hs with
    | [w0, w1, w2], _ => exact ⟨w0, w1, w2, rfl⟩
  have hw := fun d (hd : d ∈ tables_1) => atoms_spec (ws := Jvm.Cond.code x code maxLocals ret :: tables_1) hat d (List.mem_cons_of_mem _ hd)
  have hfit : Fit s := fun {y c} hc i hi => by
    obtain ⟨ha, rfl⟩ := Array.getElem?_eq_some_iff.mp hc
    have q := List.all_eq_true.mp ((Array.all_eq_true_iff_forall_mem.mp hF) _ (Array.getElem_mem ha)) i (List.mem_range.mpr hi)
    simpa [Array.getElem?_eq_getElem hi] using q
  obtain ⟨hq0, hg1⟩ := and_e hg0
  obtain ⟨i0, ei0⟩ := isL_v hq0
  obtain rfl : w0 = (.long i0) := Option.some.inj ei0
  obtain ⟨hq1, hg2⟩ := and_e hg1
  obtain ⟨i1, ei1⟩ := is_v hq1
  obtain rfl : w1 = (.int i1) := Option.some.inj ei1
  obtain ⟨i2, ei2⟩ := is_v hg2
  obtain rfl : w2 = (.int i2) := Option.some.inj ei2
  obtain ⟨n, o, h1, h2, h3, _, L, rfl, ⟨rfl, N⟩, hq⟩ := own_law l s _ hw tables_1 i0 i1 i2 s.heap s.heap.size  (Nat.le_refl _)  p e ha hc hk s m _ below hf ((Spec.applies_iff_loose hf).mp happ).1 ⟨rfl, State.Warmed39.refl s, rfl⟩ trivial
  refine ⟨n, _, h1, h2, h3, hpost _ _ _ _ _ _ ⟨Cond.after_iff.mpr rfl, Cond.after_iff.mpr (eq_i res_at (Term.int_eval (1)) rfl), trivial⟩ ⟨hq.1, hq.2.1, (hq.2.2.sift fun y hy => Or.inr (N y hy)).mono (by decide) (by decide)⟩⟩
theorem main_1_1 : Claimed_1_1 := own_comes fun _ _ _ _ _ _ h hF => ⟨h.1, hF⟩
theorem main_1_2 : Claimed_1_2 := own_comes fun _ _ _ _ _ _ h hF => ⟨h.2.1, hF⟩
end Jvm.Pilot.@@N@@
namespace Jvm.Pilot.@@N@@
open Jvm Jvm.ClassFile Sem Op Lib Jvm.Free Jvm.Stand Jvm.Pilot.@@N@@.Jvm.D
/-! MADE BY PROGRAM (witnessworld.py) out of the Statement's table words and the real class files: 9 classes; the members and pool entries that the words name. The judged class is class 1, her method 1. -/
namespace start1
open Jvm.ClassFile
def u (s : String) : CpInfo := .utf8 (stringToUtf16 s)
/-- a pool by its gaps: so many unusable entries, then the entry; so many at the end -/
def gap : Nat → List CpInfo → List CpInfo
  | 0, r => r
  | n + 1, r => .unusable :: gap n r
def poolList (es : List (Nat × CpInfo)) (last : Nat) : List CpInfo := es.foldr (fun e r => gap e.1 (e.2 :: r)) (gap last [])
def pool (es : List (Nat × CpInfo)) (last : Nat) : Array CpInfo := ⟨poolList es last⟩
def fileOf (pool : Array CpInfo) (this : Nat) (attrs : Array Attribute := #[]) (ms : Array MethodInfo := #[]) (fl : Nat := 33) (sup : Nat := 0) (ifs : Array Nat := #[]) (fds : Array FieldInfo := #[]) : ClassFile where
  minorVersion := 0
  majorVersion := 65
  constantPool := pool
  accessFlags := fl
  thisClass := this
  superClass := sup
  interfaces := ifs
  fields := fds
  methods := ms
  attributes := attrs
def plain (name : String) (sup : Option ClassId) : Class where
  name := name
  kind := .ordinary
  loader := none
  accessFlags := 33
  super := sup
  interfaces := #[]
  cf := none
  fields := #[]
  methods := #[]
  instanceTypes := #[]
  staticTypes := #[]
  resolved := #[]
  callSites := []
  init := .initialized
  statics := none
  mirror := none

def pool0 : Array CpInfo := pool [(5, u "<init>"), (0, u "()V"), (1, .class_ 10), (1, u "java/lang/Object")] 113

def k0c0 : Code := { maxStack := 0, maxLocals := 1, code := object_method_1_code, exceptionTable := #[], attributes := #[] }
def k0m0 : Method := { name := "<init>", desc := "()V", sig := { parameters := [], returnType := none }, accessFlags := 1, code := some k0c0 }
/-- java/lang/Object -/
def k0 : Class := { plain "java/lang/Object" none with
  accessFlags := 33
  interfaces := #[]
  cf := some (fileOf pool0 8 #[] #[{ accessFlags := 1, nameIndex := 5, descriptorIndex := 6, attributes := #[] }] 33 0 #[] #[])
  fields := #[]
  methods := #[k0m0]
  instanceTypes := #[]
  staticTypes := #[]
  resolved := Array.replicate 124 none
  statics := none }

def pool1 : Array CpInfo := pool [(2, .class_ 4), (1, u "java/lang/Object"), (0, u "<init>"), (0, u "()V"), (0, .class_ 8), (0, u "com/example/laiskas/laiskas/protocol/Decoder"), (0, .methodref 7 10), (0, .nameAndType 5 11), (0, u "([B)V"), (0, .methodref 7 13), (0, .nameAndType 14 15), (0, u "skip"), (0, u "(I)V"), (0, .methodref 7 17), (0, .nameAndType 18 19), (0, u "int64"), (0, u "()J"), (0, .methodref 7 21), (0, .nameAndType 22 23), (0, u "atEnd"), (0, u "()Z"), (0, .class_ 25), (0, u "com/example/laiskas/laiskas/protocol/DecoderInt64PinLaw"), (2, u "law"), (0, u "(JII)Z")] 8

def k1m0 : Method := { name := "<init>", desc := "()V", sig := { parameters := [], returnType := none }, accessFlags := 1, code := none }
def k1c1 : Code := { maxStack := 5, maxLocals := 9, code := code, exceptionTable := #[], attributes := #[] }
def k1m1 : Method := { name := "law", desc := "(JII)Z", sig := { parameters := [.long, .int, .int], returnType := some .boolean }, accessFlags := 9, code := some k1c1 }
/-- com/example/laiskas/laiskas/protocol/DecoderInt64PinLaw -/
def k1 : Class := { plain "com/example/laiskas/laiskas/protocol/DecoderInt64PinLaw" (some 0) with
  accessFlags := 49
  interfaces := #[]
  cf := some (fileOf pool1 24 #[] #[{ accessFlags := 1, nameIndex := 5, descriptorIndex := 6, attributes := #[] }, { accessFlags := 9, nameIndex := 28, descriptorIndex := 29, attributes := #[] }] 49 2 #[] #[])
  fields := #[]
  methods := #[k1m0, k1m1]
  instanceTypes := #[]
  staticTypes := #[]
  resolved := Array.replicate 38 none
  statics := none }

def pool2 : Array CpInfo := pool [(1, .methodref 2 3), (0, .class_ 4), (0, .nameAndType 5 6), (0, u "java/lang/Object"), (0, u "<init>"), (0, u "()V"), (0, .fieldref 8 9), (0, .class_ 10), (0, .nameAndType 11 12), (0, u "com/example/laiskas/laiskas/protocol/Decoder"), (0, u "bytes"), (0, u "[B"), (0, .methodref 8 14), (0, .nameAndType 15 16), (0, u "require"), (0, u "(I)V"), (0, .fieldref 8 18), (0, .nameAndType 19 20), (0, u "position"), (0, u "I"), (31, u "atEnd"), (0, u "()Z"), (4, u "([B)V"), (3, u "int64"), (0, u "()J"), (4, u "skip")] 26

def k2c0 : Code := { maxStack := 2, maxLocals := 2, code := prog_10_method_1_code, exceptionTable := #[], attributes := #[] }
def k2m0 : Method := { name := "<init>", desc := "([B)V", sig := { parameters := [(.array .byte)], returnType := none }, accessFlags := 1, code := some k2c0 }
def k2c1 : Code := { maxStack := 5, maxLocals := 4, code := prog_10_method_4_code, exceptionTable := #[], attributes := #[] }
def k2m1 : Method := { name := "int64", desc := "()J", sig := { parameters := [], returnType := some .long }, accessFlags := 1, code := some k2c1 }
def k2c2 : Code := { maxStack := 3, maxLocals := 2, code := prog_10_method_8_code, exceptionTable := #[], attributes := #[] }
def k2m2 : Method := { name := "skip", desc := "(I)V", sig := { parameters := [.int], returnType := none }, accessFlags := 1, code := some k2c2 }
def k2c3 : Code := { maxStack := 2, maxLocals := 1, code := prog_10_method_12_code, exceptionTable := #[], attributes := #[] }
def k2m3 : Method := { name := "atEnd", desc := "()Z", sig := { parameters := [], returnType := some .boolean }, accessFlags := 1, code := some k2c3 }
def k2c4 : Code := { maxStack := 5, maxLocals := 2, code := prog_10_method_14_code, exceptionTable := #[], attributes := #[] }
def k2m4 : Method := { name := "require", desc := "(I)V", sig := { parameters := [.int], returnType := none }, accessFlags := 2, code := some k2c4 }
/-- com/example/laiskas/laiskas/protocol/Decoder -/
def k2 : Class := { plain "com/example/laiskas/laiskas/protocol/Decoder" (some 0) with
  accessFlags := 49
  interfaces := #[]
  cf := some (fileOf pool2 8 #[] #[{ accessFlags := 1, nameIndex := 5, descriptorIndex := 58, attributes := #[] }, { accessFlags := 1, nameIndex := 62, descriptorIndex := 63, attributes := #[] }, { accessFlags := 1, nameIndex := 68, descriptorIndex := 16, attributes := #[] }, { accessFlags := 1, nameIndex := 52, descriptorIndex := 53, attributes := #[] }, { accessFlags := 2, nameIndex := 15, descriptorIndex := 16, attributes := #[] }] 49 2 #[] #[{ accessFlags := 18, nameIndex := 11, descriptorIndex := 12, attributes := #[] }, { accessFlags := 2, nameIndex := 19, descriptorIndex := 20, attributes := #[] }])
  fields := #[{ name := "bytes", type := (.array .byte), accessFlags := 18, slot := 0, constantValue := 0 }, { name := "position", type := .int, accessFlags := 2, slot := 1, constantValue := 0 }]
  methods := #[k2m0, k2m1, k2m2, k2m3, k2m4]
  instanceTypes := #[(.array .byte), .int]
  staticTypes := #[]
  resolved := Array.replicate 95 none
  statics := none }

def pool3 : Array CpInfo := pool [(1, u "java/lang/Cloneable"), (0, .class_ 1), (0, u "java/lang/Object"), (0, .class_ 3)] 3

/-- java/lang/Cloneable -/
def k3 : Class := { plain "java/lang/Cloneable" (some 0) with
  accessFlags := 1537
  interfaces := #[]
  cf := some (fileOf pool3 2 #[] #[] 1537 4 #[] #[])
  fields := #[]
  methods := #[]
  instanceTypes := #[]
  staticTypes := #[]
  resolved := Array.replicate 8 none
  statics := none }

def pool4 : Array CpInfo := pool [(1, u "java/io/Serializable"), (0, .class_ 1), (0, u "java/lang/Object"), (0, .class_ 3)] 3

/-- java/io/Serializable -/
def k4 : Class := { plain "java/io/Serializable" (some 0) with
  accessFlags := 1537
  interfaces := #[]
  cf := some (fileOf pool4 2 #[] #[] 1537 4 #[] #[])
  fields := #[]
  methods := #[]
  instanceTypes := #[]
  staticTypes := #[]
  resolved := Array.replicate 8 none
  statics := none }

/-- the primitive byte -/
def k5 : Class := { plain "byte" none with kind := .primitive 'B', accessFlags := 0x411 }
/-- [B -/
def k6 : Class := { plain "[B" (some 0) with kind := .array 5 .byte, interfaces := #[3, 4], accessFlags := 1041 }

/-- the primitive int -/
def k7 : Class := { plain "int" none with kind := .primitive 'I', accessFlags := 0x411 }
/-- [I -/
def k8 : Class := { plain "[I" (some 0) with kind := .array 7 .int, interfaces := #[3, 4], accessFlags := 1041 }

def heap : Heap := #[]
def classes : Array Class := #[k0, k1, k2, k3, k4, k5, k6, k7, k8]
def interned : List (Array UInt16 × Addr) := []
def slotsUsed : Nat := 0
def theMethod : MethodId := ⟨1, 1⟩
def args0 : Array Value := #[.long 5, .int 3, .int 4]
def aboutOver (below : List Frame) : State where
  vm := { classes := classes, interned := interned.toArray }
  heap := heap
  slotsUsed := slotsUsed
  threads := #[{ frames := .invoking theMethod args0 :: below }]
def below0 : List Frame := [.native { method := ⟨0, 0⟩, args := #[] }]
def about1 : State := aboutOver below0
def p0 : Program := .bare "" "" ""
def e0 : Env := launch0.env 0 0 0
theorem w_frames : about1.frames = Frame.invoking theMethod args0 :: below0 := rfl
set_option maxRecDepth 65536 in
theorem w_args : argsFit about1.vm theMethod args0 = true := by decide +kernel
set_option maxRecDepth 65536 in
theorem w_heap : heapFits about1 = true := by decide +kernel
set_option maxRecDepth 65536 in
theorem w_runnable : about1.curStatus? = some .runnable := by decide +kernel
set_option maxRecDepth 65536 in
theorem w_alone : about1.alone = true := by decide +kernel
set_option maxRecDepth 65536 in
theorem w_named : about1.methodNamed? x = some theMethod := by decide +kernel
set_option maxRecDepth 65536 in
theorem w_hears : about1.hears theMethod below0 = true := by decide +kernel
set_option maxRecDepth 65536 in
theorem w_ripe : about1.ripe theMethod args0 below0 = true := by decide +kernel
theorem w_running : about1.status = .running := rfl
set_option maxRecDepth 65536 in
theorem w_room : about1.hasRoom e0.platform room_1 = true :=
  launch0.hasRoom_least _ room_1 (by decide +kernel) (by decide +kernel) (by decide +kernel) (by decide +kernel) (by decide +kernel) (by decide +kernel)
theorem allAtoms_all (ts : List Jvm.Cond) (a : Array Jvm.Value) (st : Jvm.State) : (allAtoms ts).before a st = ts.all (fun c => c.before a st) := by
  induction ts with
  | nil => rfl
  | cons c t ih =>
    show (Jvm.Cond.and c (allAtoms t)).before a st = _
    rw [Jvm.Cond.before_and, ih, List.all_cons]
def words1 : List Jvm.Cond := Jvm.Cond.code x code maxLocals ret :: tables_1
/-- a 'code' word, met by the world's own term for the bytes: nothing is compared byte by byte -/
theorem code_word {y : MethodName} {bytes : ByteArray} {mx : Nat} {rt : Option FieldType} {a : Array Value} {s : State} {m : MethodId} {meth : Method} {c : Code} (h1 : s.methodNamed? y = some m) (h2 : s.vm.method? m = some meth) (h3 : meth.code = some c) (h4 : c.code = bytes)
    (h5 : (c.maxLocals == mx && c.exceptionTable.isEmpty && decide (c.maxStack ≤ mostOperands) && decide (meth.sig.returnType = rt) && !meth.locks && decide (parseMethodDescriptor y.desc = some meth.sig)) = true) : (Jvm.Cond.code y bytes mx rt).before a s = true := by
  simp only [Bool.and_eq_true, beq_iff_eq, Bool.not_eq_true', decide_eq_true_eq] at h5
  obtain ⟨⟨⟨⟨⟨g1, g2⟩, g3⟩, g4⟩, g5⟩, g6⟩ := h5
  simp [Cond.before, Cond.holds, Cond.value, h1, h2, h3, h4, g1, g2, g3, g4, g5, g6]
def isCode : Jvm.Cond → Bool
  | .code _ _ _ _ => true
  | _ => false
theorem all_split {L : List Jvm.Cond} {P : Jvm.Cond → Bool} (h1 : L.all (fun c => isCode c || P c) = true) (h2 : ∀ c ∈ L.filter isCode, P c = true) : L.all P = true := by
  refine List.all_eq_true.mpr fun c hc => ?_
  have h := List.all_eq_true.mp h1 c hc
  rcases Bool.eq_false_or_eq_true (isCode c) with hi | hi
  · exact h2 c (List.mem_filter.mpr ⟨hc, hi⟩)
  · simpa [hi] using h
set_option maxRecDepth 65536 in
theorem w_c0 : (Jvm.Cond.code x code maxLocals ret).before args0 about1 = true := code_word (m := ⟨1, 1⟩) (meth := k1m1) (c := k1c1) (by decide +kernel) rfl rfl rfl (by decide +kernel)
set_option maxRecDepth 65536 in
theorem w_c1 : (Jvm.Cond.code ({ cls := "com/example/laiskas/laiskas/protocol/Decoder", name := "<init>", desc := "([B)V" } : Jvm.MethodName) prog_10_method_1_code (2 : Nat) (Option.none : Option Jvm.ClassFile.FieldType)).before args0 about1 = true := code_word (m := ⟨2, 0⟩) (meth := k2m0) (c := k2c0) (by decide +kernel) rfl rfl rfl (by decide +kernel)
set_option maxRecDepth 65536 in
theorem w_c2 : (Jvm.Cond.code ({ cls := "java/lang/Object", name := "<init>", desc := "()V" } : Jvm.MethodName) object_method_1_code (1 : Nat) (Option.none : Option Jvm.ClassFile.FieldType)).before args0 about1 = true := code_word (m := ⟨0, 0⟩) (meth := k0m0) (c := k0c0) (by decide +kernel) rfl rfl rfl (by decide +kernel)
set_option maxRecDepth 65536 in
theorem w_c3 : (Jvm.Cond.code ({ cls := "com/example/laiskas/laiskas/protocol/Decoder", name := "skip", desc := "(I)V" } : Jvm.MethodName) prog_10_method_8_code (2 : Nat) (Option.none : Option Jvm.ClassFile.FieldType)).before args0 about1 = true := code_word (m := ⟨2, 2⟩) (meth := k2m2) (c := k2c2) (by decide +kernel) rfl rfl rfl (by decide +kernel)
set_option maxRecDepth 65536 in
theorem w_c4 : (Jvm.Cond.code ({ cls := "com/example/laiskas/laiskas/protocol/Decoder", name := "require", desc := "(I)V" } : Jvm.MethodName) prog_10_method_14_code (2 : Nat) (Option.none : Option Jvm.ClassFile.FieldType)).before args0 about1 = true := code_word (m := ⟨2, 4⟩) (meth := k2m4) (c := k2c4) (by decide +kernel) rfl rfl rfl (by decide +kernel)
set_option maxRecDepth 65536 in
theorem w_c5 : (Jvm.Cond.code ({ cls := "com/example/laiskas/laiskas/protocol/Decoder", name := "int64", desc := "()J" } : Jvm.MethodName) prog_10_method_4_code (4 : Nat) (Option.some Jvm.ClassFile.FieldType.long)).before args0 about1 = true := code_word (m := ⟨2, 1⟩) (meth := k2m1) (c := k2c1) (by decide +kernel) rfl rfl rfl (by decide +kernel)
set_option maxRecDepth 65536 in
theorem w_c6 : (Jvm.Cond.code ({ cls := "com/example/laiskas/laiskas/protocol/Decoder", name := "atEnd", desc := "()Z" } : Jvm.MethodName) prog_10_method_12_code (1 : Nat) (Option.some Jvm.ClassFile.FieldType.boolean)).before args0 about1 = true := code_word (m := ⟨2, 3⟩) (meth := k2m3) (c := k2c3) (by decide +kernel) rfl rfl rfl (by decide +kernel)
def codes1 : List Jvm.Cond := [Jvm.Cond.code x code maxLocals ret, Jvm.Cond.code ({ cls := "com/example/laiskas/laiskas/protocol/Decoder", name := "<init>", desc := "([B)V" } : Jvm.MethodName) prog_10_method_1_code (2 : Nat) (Option.none : Option Jvm.ClassFile.FieldType), Jvm.Cond.code ({ cls := "java/lang/Object", name := "<init>", desc := "()V" } : Jvm.MethodName) object_method_1_code (1 : Nat) (Option.none : Option Jvm.ClassFile.FieldType), Jvm.Cond.code ({ cls := "com/example/laiskas/laiskas/protocol/Decoder", name := "skip", desc := "(I)V" } : Jvm.MethodName) prog_10_method_8_code (2 : Nat) (Option.none : Option Jvm.ClassFile.FieldType), Jvm.Cond.code ({ cls := "com/example/laiskas/laiskas/protocol/Decoder", name := "require", desc := "(I)V" } : Jvm.MethodName) prog_10_method_14_code (2 : Nat) (Option.none : Option Jvm.ClassFile.FieldType), Jvm.Cond.code ({ cls := "com/example/laiskas/laiskas/protocol/Decoder", name := "int64", desc := "()J" } : Jvm.MethodName) prog_10_method_4_code (4 : Nat) (Option.some Jvm.ClassFile.FieldType.long), Jvm.Cond.code ({ cls := "com/example/laiskas/laiskas/protocol/Decoder", name := "atEnd", desc := "()Z" } : Jvm.MethodName) prog_10_method_12_code (1 : Nat) (Option.some Jvm.ClassFile.FieldType.boolean)]
set_option maxRecDepth 65536 in
theorem codes_eq : words1.filter isCode = codes1 := rfl
theorem w_codes : ∀ c ∈ words1.filter isCode, c.before args0 about1 = true := by
  rw [codes_eq]
  intro c hc
  simp only [codes1, List.mem_cons, List.not_mem_nil, or_false] at hc
  rcases hc with rfl | rfl | rfl | rfl | rfl | rfl | rfl
  · exact w_c0
  · exact w_c1
  · exact w_c2
  · exact w_c3
  · exact w_c4
  · exact w_c5
  · exact w_c6
set_option maxRecDepth 65536 in
theorem w_t1 : (words1.take 24).all (fun c => isCode c || c.before args0 about1) = true := by decide +kernel
set_option maxRecDepth 65536 in
theorem w_t2 : (words1.drop 24).all (fun c => isCode c || c.before args0 about1) = true := by decide +kernel
theorem w_tables : (allAtoms (Jvm.Cond.code x code maxLocals ret :: tables_1)).before args0 about1 = true := by
  rw [allAtoms_all]
  show words1.all (fun c => c.before args0 about1) = true
  refine all_split ?_ w_codes
  rw [← List.take_append_drop 24 words1, List.all_append, w_t1, w_t2]
  rfl
set_option maxRecDepth 65536 in
theorem w_case : (Jvm.Cond.and given_1 narrow_1).before args0 about1 = true := by decide +kernel
theorem w_applies : (headSpec (Jvm.Cond.code x code maxLocals ret :: tables_1) room_1).applies x e0.platform about1 = true :=
  (Spec.applies_iff w_frames).mpr ⟨w_running, w_runnable, w_alone, w_named, w_hears, w_ripe, w_room, w_tables⟩
theorem atStart : AtStart classFile x code maxLocals ret World_1 tables_1 room_1 Calls_1 rest_1 Pre_1 launch0 p0 e0 about1 theMethod args0 below0 :=
  ⟨lists_1, trivial, launch0.admits_env _ _ _, launch0.least_env, fairChoices_fair.cas, fairChoices_fair.clock, w_frames, w_args, w_heap, w_applies, trivial, trivial, w_case⟩
end start1
theorem witness_1 : WitnessClaimed_1 := ⟨start1.p0, start1.e0, start1.about1, start1.theMethod, start1.args0, start1.below0, start1.atStart⟩
end Jvm.Pilot.@@N@@
