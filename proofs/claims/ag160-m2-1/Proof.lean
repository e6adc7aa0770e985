import JvmDerived
import JvmDerived.Pilot.@@N@@Statement
import JvmDerived.Pilot.@@N@@Code
set_option linter.unusedVariables false
set_option linter.unusedSimpArgs false
@@BLOCK:NumsL.lean.txt@@
namespace Jvm.Pilot.@@N@@
open Jvm Jvm.ClassFile Sem Op Lib Jvm.Free Jvm.Stand Jvm.LawKit Jvm.RoadKit Bundle Jvm.Pilot.@@N@@.Jvm.D
/-! OWN: the walks' own small calculus: 'Go' says that the run, standing in T with the top frame g, comes to an end that answers; every step carries a Go at the next place back to a Go at this one, so that a walk may fork and join. -/
section Own
variable {p : Program} {l : Launch} {e : Env} {R : Room} {s Z : State} {m : MethodId} {args a0 : Array Value} {below : List Frame} {meth : Method} {c : Code} {T : State} {locs : List Loc} {cells slots : Nat} {h : Heap} {P : Outcome → State → Prop}
/-- what a body must come to -/
def OwnEnd (Q : Option Value → Heap → List Loc → Prop) (s : State) (k n : Nat) (o : Outcome) (t : State) : Prop := ∃ v L, o = .returned v ∧ Q v t.heap L ∧ FrameEnd s o t L k n
def Go (p : Program) (e : Env) (below : List Frame) (P : Outcome → State → Prop) (T : State) (g : JFrame) : Prop := ∃ t o, Steps p.tables e below (T.setTop g) t ∧ t.status = .running ∧ Ended t below o ∧ P o t
theorem Go.of {T' : State} {g g' : JFrame} (k : ∀ t, Steps p.tables e below (T'.setTop g') t → Steps p.tables e below (T.setTop g) t) (K : Go p e below P T' g') : Go p e below P T g := by
  obtain ⟨t, o, h1, h2⟩ := K
  exact ⟨t, o, k t h1, h2⟩
theorem Go.joinI {g : JFrame} (X : Stand p l e R s m args below meth c T locs cells slots) (eT : T.heap = h) (v0 : Int32) (g1 : Int32 → JFrame) (K : (∀ (T' : State) (v : Int32), v = v0 → Stand p l e R s m args below meth c T' locs cells slots → T'.heap = h → Go p e below P T' (g1 v)) → Go p e below P T g)
    (J : ∀ T', Stand p l e R s m args below meth c T' locs cells slots → T'.heap = h → Go p e below P T' (g1 v0)) : Go p e below P T g := K fun T' v q X' e' => q ▸ J T' X' e'
theorem Go.joinJ {g : JFrame} (X : Stand p l e R s m args below meth c T locs cells slots) (eT : T.heap = h) (v0 : Int64) (g1 : Int64 → JFrame) (K : (∀ (T' : State) (v : Int64), v = v0 → Stand p l e R s m args below meth c T' locs cells slots → T'.heap = h → Go p e below P T' (g1 v)) → Go p e below P T g)
    (J : ∀ T', Stand p l e R s m args below meth c T' locs cells slots → T'.heap = h → Go p e below P T' (g1 v0)) : Go p e below P T g := K fun T' v q X' e' => q ▸ J T' X' e'
theorem Go.joinR {g : JFrame} (X : Stand p l e R s m args below meth c T locs cells slots) (eT : T.heap = h) (v0 : Addr) (g1 : Addr → JFrame) (K : (∀ (T' : State) (v : Addr), v = v0 → Stand p l e R s m args below meth c T' locs cells slots → T'.heap = h → Go p e below P T' (g1 v)) → Go p e below P T g)
    (J : ∀ T', Stand p l e R s m args below meth c T' locs cells slots → T'.heap = h → Go p e below P T' (g1 v0)) : Go p e below P T g := K fun T' v q X' e' => q ▸ J T' X' e'
theorem Go.cast {g g' : JFrame} (q : g = g') (K : Go p e below P T g') : Go p e below P T g := q ▸ K
theorem Go.leave (X : Stand p l e R s m args below meth c T locs cells slots) {g : JFrame} {v : Option Value} (hv : meth.sig.returnType = none → v = none) (hlk : meth.locks = false) {Q : Option Value → Heap → List Loc → Prop} {k n : Nat} (hc : cells ≤ k) (hs : slots ≤ n) (hQ : Q v T.heap locs)
    (st : ∀ fs, (∀ (f : JFrame) (acts : List Action), f.method = m → f.locked = none → f.entered = [] → (doReturn e (T.setTop f) acts v).1 = T.setFrames fs) → Steps p.tables e below (T.setTop g) (T.setFrames fs)) : Go p e below (OwnEnd Q s k n) T g := by
  obtain ⟨fs, hr, hrun, hended, hW, hsame⟩ := X.leave hv hlk
  exact ⟨_, _, st fs hr, hrun, hended, _, _, rfl, hQ, ⟨_, rfl⟩, hW, hsame.mono hc hs⟩
theorem Go.retZ (X : Stand p l e R s m args below meth c T locs cells slots) (hx : p.tables.exec = Jvm.exec) {pc pc0 : Nat} {Ls : Array Slot} {z z' : Int32} {rest : List Value} (hret : meth.sig.returnType = some .boolean) (hlk : meth.locks = false) (hd : decode c.code pc0 = .ok (.ireturn, 1)) (hpc : pc = pc0) {Q : Option Value → Heap → List Loc → Prop} {k n : Nat}
    (hz : z &&& 1 = z') (hQ : Q (some (.int z')) T.heap locs) (hc : cells ≤ k) (hs : slots ≤ n) : Go p e below (OwnEnd Q s k n) T (mkF m pc Ls (.int z :: rest)) := by
  subst hz hpc
  exact Go.leave X (v := some (.int (nar .boolean z))) (fun q => by rw [hret] at q; cases q) hlk hc hs hQ fun fs hr => retN X hx (t := .boolean) hret (by simp) hd hr
theorem Go.retW (X : Stand p l e R s m args below meth c T locs cells slots) (hx : p.tables.exec = Jvm.exec) {pc pc0 : Nat} {Ls : Array Slot} {w : Value} {t : FieldType} {i : Instr} {rest : List Value} (hret : meth.sig.returnType = some t) (hlk : meth.locks = false) (hn : narrow t w = w)
    (hi : (i = .ireturn ∧ (t = .int ∨ t = .boolean ∨ t = .byte ∨ t = .char ∨ t = .short) ∧ ∃ z, w = .int z) ∨ (i = .lreturn ∧ t = .long ∧ ∃ z, w = .long z) ∨ (i = .dreturn ∧ t = .double ∧ ∃ z, w = .double z) ∨ (i = .freturn ∧ t = .float ∧ ∃ z, w = .float z) ∨ (i = .areturn ∧ t.isReference = true ∧ w.isRef = true))
    (hd : decode c.code pc0 = .ok (i, 1)) (hpc : pc = pc0) {Q : Option Value → Heap → List Loc → Prop} {k n : Nat} (hQ : Q (some w) T.heap locs) (hc : cells ≤ k) (hs : slots ≤ n) : Go p e below (OwnEnd Q s k n) T (mkF m pc Ls (w :: rest)) := by
  subst hpc
  exact Go.leave X (v := some w) (fun q => by rw [hret] at q; cases q) hlk hc hs hQ fun fs hr => retOut X hx hret hn hi hd hr
theorem Go.retI (X : Stand p l e R s m args below meth c T locs cells slots) (hx : p.tables.exec = Jvm.exec) {pc pc0 : Nat} {Ls : Array Slot} {z : Int32} {rest : List Value} (hret : meth.sig.returnType = some .int) (hlk : meth.locks = false) (hd : decode c.code pc0 = .ok (.ireturn, 1)) (hpc : pc = pc0) {Q : Option Value → Heap → List Loc → Prop} {k n : Nat}
    (hQ : Q (some (.int z)) T.heap locs) (hc : cells ≤ k) (hs : slots ≤ n) : Go p e below (OwnEnd Q s k n) T (mkF m pc Ls (.int z :: rest)) := Go.retW X hx hret hlk rfl (Or.inl ⟨rfl, Or.inl rfl, _, rfl⟩) hd hpc hQ hc hs
theorem Go.retJ (X : Stand p l e R s m args below meth c T locs cells slots) (hx : p.tables.exec = Jvm.exec) {pc pc0 : Nat} {Ls : Array Slot} {z : Int64} {rest : List Value} (hret : meth.sig.returnType = some .long) (hlk : meth.locks = false) (hd : decode c.code pc0 = .ok (.lreturn, 1)) (hpc : pc = pc0) {Q : Option Value → Heap → List Loc → Prop} {k n : Nat}
    (hQ : Q (some (.long z)) T.heap locs) (hc : cells ≤ k) (hs : slots ≤ n) : Go p e below (OwnEnd Q s k n) T (mkF m pc Ls (.long z :: rest)) := Go.retW X hx hret hlk rfl (Or.inr (Or.inl ⟨rfl, rfl, _, rfl⟩)) hd hpc hQ hc hs
theorem Go.retA (X : Stand p l e R s m args below meth c T locs cells slots) (hx : p.tables.exec = Jvm.exec) {pc pc0 : Nat} {Ls : Array Slot} {w : Value} {t : FieldType} {rest : List Value} (hret : meth.sig.returnType = some t) (hlk : meth.locks = false) (ht : t.isReference = true) (hw : w.isRef = true) (hd : decode c.code pc0 = .ok (.areturn, 1)) (hpc : pc = pc0) {Q : Option Value → Heap → List Loc → Prop} {k n : Nat}
    (hQ : Q (some w) T.heap locs) (hc : cells ≤ k) (hs : slots ≤ n) : Go p e below (OwnEnd Q s k n) T (mkF m pc Ls (w :: rest)) := by
  refine Go.retW X hx hret hlk ?_ (Or.inr (Or.inr (Or.inr (Or.inr ⟨rfl, ht, hw⟩)))) hd hpc hQ hc hs
  rcases ref_cases hw with rfl | ⟨a, rfl⟩ <;> cases t <;> first | rfl | (simp [FieldType.isReference] at ht)
theorem Go.retV (X : Stand p l e R s m args below meth c T locs cells slots) (hx : p.tables.exec = Jvm.exec) {pc pc0 : Nat} {Ls : Array Slot} (hret : meth.sig.returnType = none) (hlk : meth.locks = false) (hd : decode c.code pc0 = .ok (.return_, 1)) (hpc : pc = pc0) {Q : Option Value → Heap → List Loc → Prop} {k n : Nat}
    (hQ : Q none T.heap locs) (hc : cells ≤ k) (hs : slots ≤ n) : Go p e below (OwnEnd Q s k n) T (mkF m pc Ls []) := by
  subst hpc
  exact Go.leave X (v := none) (fun _ => rfl) hlk hc hs hQ fun fs hr => X.returnOut hx hret hd hr
/-- a contract of a body: called on these arguments and this heap -/
def Ctr (l : Launch) (Z : State) (y : MethodName) (code : ByteArray) (mx : Nat) (ret : Option FieldType) (Rm : Room) (as' : Array Value) (h : Heap) (Q : Option Value → Heap → List Loc → Prop) : Prop :=
  ∀ ws : List Cond, MetFree l y (head1 (Cond.code y code mx ret :: ws) Rm) (fun a U => a = as' ∧ Z.Warmed39 U.vm ∧ U.heap = h) (fun _ _ _ _ _ => True) (fun _ U o U' => OwnEnd Q U Rm.cells Rm.slots o U')
theorem Ctr.of {y : MethodName} {code : ByteArray} {mx : Nat} {ret : Option FieldType} {Rm : Room} {as' : Array Value} {Q : Option Value → Heap → List Loc → Prop} (hp : plainFor y = true)
    (body : ∀ (p : Program) (e : Env) (s : State) (m : MethodId) (below : List Frame) (meth : Method) (c : Code) (s₁ : State), p.tables.exec = Jvm.exec → c.code = code → c.maxLocals = mx → s.vm.findClass y.cls = some m.cls → meth.name = y.name → meth.sig.returnType = ret → meth.locks = false → Z.Warmed39 s.vm →
      Stand p l e Rm s m as' below meth c s₁ [] 0 0 → s₁.heap = h → Go p e below (OwnEnd Q s Rm.cells Rm.slots) s₁ (entryFrame m as' mx)) : Ctr l Z y code mx ret Rm as' h Q := by
  intro ws
  refine MetFree.of_bodySF hp hisR ?_
  intro p e s m args below meth c s₁ Bd hml hP hK
  obtain ⟨rfl, hZ, hh⟩ := hP
  exact body p e s m below meth c s₁ Bd.exec Bd.bytes hml (findClass_of_methodNamed Bd.named) (name_of_methodNamed Bd.named Bd.method).1 Bd.returns Bd.notSynchronized hZ (Stand.of_body Bd) (by rw [← hh, Bd.state]; rfl)
/-- a body that returns V, writes nothing and makes nothing -/
def Pur (l : Launch) (Z : State) (y : MethodName) (code : ByteArray) (mx : Nat) (ret : Option FieldType) (fr lo : Nat) (as' : Array Value) (h : Heap) (V : Option Value) : Prop :=
  Ctr l Z y code mx ret ({ frames := fr, cells := 0, slots := 0, locals := lo } : Room) as' h fun v h' L => v = V ∧ L = [] ∧ h' = h
theorem Go.callS (X : Stand p l e R s m args below meth c T locs cells slots) (hx : p.tables.exec = Jvm.exec) (hZ : Z.Warmed39 s.vm) {own : String} {index : Nat} {y : MethodName} {bytes : ByteArray} {maxL : Nat} {ret : Option FieldType} (hown : s.vm.findClass own = some m.cls)
    (w1 : (Cond.methodLink own index y).before a0 Z = true) (w2 : (Cond.static y).before a0 Z = true) (w3 : (Cond.initialized y.cls).before a0 Z = true) (w4 : (Cond.code y bytes maxL ret).before a0 Z = true) (hy : y.cls ≠ "java/lang/invoke/MethodHandle" ∧ y.cls ≠ "java/lang/invoke/VarHandle")
    {Rm : Room} {Q : Option Value → Heap → List Loc → Prop} (argsL rest : List Value) (C : Ctr l Z y bytes maxL ret Rm argsL.toArray h Q) (eT : T.heap = h) {pc : Nat} {Ls : Array Slot} {st : List Value} (hst : st = argsL.reverse ++ rest) (hsz : Ls.size = c.maxLocals) {ps : List FieldType} {r : Option FieldType} (hpd : parseMethodDescriptor y.desc = some ⟨ps, r⟩) (hln : argsL.length = ps.length)
    (hd : decode c.code pc = .ok (.invokestatic index, 3)) (hfr : Rm.frames + 1 ≤ R.frames) (hlo : (rest.map fun v => v.category).sum + (maxL + 11) + Rm.locals ≤ R.locals) (hc : cells + Rm.cells ≤ R.cells) (hs : slots + Rm.slots ≤ R.slots)
    (K : ∀ v T' L, Stand p l e R s m args below meth c T' (locs ++ L) (cells + Rm.cells) (slots + Rm.slots) → Q v T'.heap L → Go p e below P T' (mkF m (pc + 3) Ls (v.toList ++ rest))) : Go p e below P T (mkF m pc Ls st) := by
  subst hst
  obtain ⟨v, _, ⟨T', L', k', n'⟩, -, X', ⟨L, hQ, l1, l2, l3⟩, st⟩ := Jvm.LawKit.callS X hx (y := y) hown (mvT hZ w1) (mvT hZ w2) (mvT hZ w3) (mvT hZ w4) hy (backOf (W := (rest.map fun v => v.category).sum) (Q := Q) (C []) hZ w4 w3 hfr hlo) (g := mkF m pc Ls (argsL.reverse ++ rest)) rfl hsz (argsL := argsL) (rest := rest) (lenOf hpd hln) rfl (by show 2 * 0 + _ ≤ _; omega) hd (fun _ _ => ⟨rfl, eT, hc, hs⟩)
  dsimp only [Pt.U, Pt.locs, Pt.cells, Pt.slots] at X' l1 l2 l3 st hQ
  subst l1 l2 l3
  exact Go.of st (K v T' L X' hQ)
theorem Go.pureS (X : Stand p l e R s m args below meth c T locs cells slots) (hx : p.tables.exec = Jvm.exec) (hZ : Z.Warmed39 s.vm) {own : String} {index : Nat} {y : MethodName} {bytes : ByteArray} {maxL : Nat} {ret : Option FieldType} (hown : s.vm.findClass own = some m.cls)
    (w1 : (Cond.methodLink own index y).before a0 Z = true) (w2 : (Cond.static y).before a0 Z = true) (w3 : (Cond.initialized y.cls).before a0 Z = true) (w4 : (Cond.code y bytes maxL ret).before a0 Z = true) (hy : y.cls ≠ "java/lang/invoke/MethodHandle" ∧ y.cls ≠ "java/lang/invoke/VarHandle")
    {fr lo : Nat} {V : Option Value} (argsL rest : List Value) (C : Pur l Z y bytes maxL ret fr lo argsL.toArray h V) (eT : T.heap = h) {pc : Nat} {Ls : Array Slot} {st : List Value} (hst : st = argsL.reverse ++ rest) (hsz : Ls.size = c.maxLocals) {ps : List FieldType} {r : Option FieldType} (hpd : parseMethodDescriptor y.desc = some ⟨ps, r⟩) (hln : argsL.length = ps.length)
    (hd : decode c.code pc = .ok (.invokestatic index, 3)) (hfr : fr + 1 ≤ R.frames) (hlo : (rest.map fun v => v.category).sum + (maxL + 11) + lo ≤ R.locals) (hc : cells ≤ R.cells) (hs : slots ≤ R.slots)
    (K : ∀ T', Stand p l e R s m args below meth c T' locs cells slots → T'.heap = h → Go p e below P T' (mkF m (pc + 3) Ls (V.toList ++ rest))) : Go p e below P T (mkF m pc Ls st) := by
  refine Go.callS X hx hZ hown w1 w2 w3 w4 hy argsL rest C eT hst hsz hpd hln hd hfr hlo hc hs ?_
  rintro v T' L X' ⟨rfl, rfl, e'⟩
  rw [List.append_nil] at X'
  exact K T' X' e'
theorem Go.callV (X : Stand p l e R s m args below meth c T locs cells slots) (hx : p.tables.exec = Jvm.exec) (hZ : Z.Warmed39 s.vm) {own C : String} {index : Nat} {y z : MethodName} {bytes : ByteArray} {maxL : Nat} {ret : Option FieldType} (hown : s.vm.findClass own = some m.cls)
    (w1 : (Cond.methodLink own index y).before a0 Z = true) (w2 : (Cond.declares y).before a0 Z = true) (hnf : NotFace s y) (w3 : (Cond.selects C y z).before a0 Z = true) (w4 : (Cond.instanceMethod z).before a0 Z = true) (w5 : (Cond.initialized z.cls).before a0 Z = true) (w6 : (Cond.code z bytes maxL ret).before a0 Z = true) (hy : y.cls ≠ "java/lang/invoke/MethodHandle" ∧ y.cls ≠ "java/lang/invoke/VarHandle")
    {Rm : Room} {Q : Option Value → Heap → List Loc → Prop} {b : Addr} (argsL rest : List Value) (E : Exa Z h b C) (Ct : Ctr l Z z bytes maxL ret Rm (.ref b :: argsL).toArray h Q) (eT : T.heap = h) {pc : Nat} {Ls : Array Slot} {st : List Value} (hst : st = argsL.reverse ++ .ref b :: rest) (hsz : Ls.size = c.maxLocals) {ps : List FieldType} {r : Option FieldType} (hpd : parseMethodDescriptor y.desc = some ⟨ps, r⟩) (hln : argsL.length = ps.length)
    (hd : decode c.code pc = .ok (.invokevirtual index, 3)) (hfr : Rm.frames + 1 ≤ R.frames) (hlo : (rest.map fun v => v.category).sum + (maxL + 11) + Rm.locals ≤ R.locals) (hc : cells + Rm.cells ≤ R.cells) (hs : slots + Rm.slots ≤ R.slots)
    (K : ∀ v T' L, Stand p l e R s m args below meth c T' (locs ++ L) (cells + Rm.cells) (slots + Rm.slots) → Q v T'.heap L → Go p e below P T' (mkF m (pc + 3) Ls (v.toList ++ rest))) : Go p e below P T (mkF m pc Ls st) := by
  subst hst
  obtain ⟨cq, kq, q1, q2, q3⟩ := isOf hZ eT E
  obtain ⟨v, _, ⟨T', L', k', n'⟩, -, X', ⟨L, hQ, l1, l2, l3⟩, st⟩ := X.virtualBack hx (y := y) (z := z) hown (mvT hZ w1) (mvT hZ w2) hnf (mvT hZ w3) (mvT hZ w4) hy (backOf (W := (rest.map fun v => v.category).sum) (Q := Q) (Ct []) hZ w6 w5 hfr hlo) q1 q3 (g := mkF m pc Ls (argsL.reverse ++ .ref b :: rest)) rfl hsz (Steps.refl _) (argsL := argsL) (rest := rest) (lenOf hpd hln) rfl (by show 2 * 0 + _ ≤ _; omega) hd (fun _ _ => ⟨rfl, eT, hc, hs⟩)
  dsimp only [Pt.U, Pt.locs, Pt.cells, Pt.slots] at X' l1 l2 l3 st hQ
  subst l1 l2 l3
  exact Go.of (fun _ k => st.trans k) (K v T' L X' hQ)
theorem Go.pureV (X : Stand p l e R s m args below meth c T locs cells slots) (hx : p.tables.exec = Jvm.exec) (hZ : Z.Warmed39 s.vm) {own C : String} {index : Nat} {y z : MethodName} {bytes : ByteArray} {maxL : Nat} {ret : Option FieldType} (hown : s.vm.findClass own = some m.cls)
    (w1 : (Cond.methodLink own index y).before a0 Z = true) (w2 : (Cond.declares y).before a0 Z = true) (hnf : NotFace s y) (w3 : (Cond.selects C y z).before a0 Z = true) (w4 : (Cond.instanceMethod z).before a0 Z = true) (w5 : (Cond.initialized z.cls).before a0 Z = true) (w6 : (Cond.code z bytes maxL ret).before a0 Z = true) (hy : y.cls ≠ "java/lang/invoke/MethodHandle" ∧ y.cls ≠ "java/lang/invoke/VarHandle")
    {fr lo : Nat} {V : Option Value} {b : Addr} (argsL rest : List Value) (E : Exa Z h b C) (Ct : Pur l Z z bytes maxL ret fr lo (.ref b :: argsL).toArray h V) (eT : T.heap = h) {pc : Nat} {Ls : Array Slot} {st : List Value} (hst : st = argsL.reverse ++ .ref b :: rest) (hsz : Ls.size = c.maxLocals) {ps : List FieldType} {r : Option FieldType} (hpd : parseMethodDescriptor y.desc = some ⟨ps, r⟩) (hln : argsL.length = ps.length)
    (hd : decode c.code pc = .ok (.invokevirtual index, 3)) (hfr : fr + 1 ≤ R.frames) (hlo : (rest.map fun v => v.category).sum + (maxL + 11) + lo ≤ R.locals) (hc : cells ≤ R.cells) (hs : slots ≤ R.slots)
    (K : ∀ T', Stand p l e R s m args below meth c T' locs cells slots → T'.heap = h → Go p e below P T' (mkF m (pc + 3) Ls (V.toList ++ rest))) : Go p e below P T (mkF m pc Ls st) := by
  refine Go.callV X hx hZ hown w1 w2 hnf w3 w4 w5 w6 hy argsL rest E Ct eT hst hsz hpd hln hd hfr hlo hc hs ?_
  rintro v T' L X' ⟨rfl, rfl, e'⟩
  rw [List.append_nil] at X'
  exact K T' X' e'
theorem Go.callU (X : Stand p l e R s m args below meth c T locs cells slots) (hx : p.tables.exec = Jvm.exec) (hZ : Z.Warmed39 s.vm) {own C ow : String} {index : Nat} {y z : MethodName} {bytes : ByteArray} {maxL : Nat} {ret : Option FieldType} (hown : s.vm.findClass own = some m.cls)
    (w1 : (Cond.methodLink own index y).before a0 Z = true) (w2 : (Cond.sameMethod y.cls ow y.name y.desc).before a0 Z = true) (w2' : (Cond.declares ⟨ow, y.name, y.desc⟩).before a0 Z = true) (w3 : (Cond.selects C y z).before a0 Z = true) (w4 : (Cond.instanceMethod z).before a0 Z = true) (w5 : (Cond.initialized z.cls).before a0 Z = true) (w6 : (Cond.code z bytes maxL ret).before a0 Z = true) (hy : ow ≠ "java/lang/invoke/MethodHandle" ∧ ow ≠ "java/lang/invoke/VarHandle")
    {Rm : Room} {Q : Option Value → Heap → List Loc → Prop} {b : Addr} (argsL rest : List Value) (E : Exa Z h b C) (Ct : Ctr l Z z bytes maxL ret Rm (.ref b :: argsL).toArray h Q) (eT : T.heap = h) {pc : Nat} {Ls : Array Slot} {st : List Value} (hst : st = argsL.reverse ++ .ref b :: rest) (hsz : Ls.size = c.maxLocals) {ps : List FieldType} {r : Option FieldType} (hpd : parseMethodDescriptor y.desc = some ⟨ps, r⟩) (hln : argsL.length = ps.length)
    (hd : decode c.code pc = .ok (.invokevirtual index, 3)) (hfr : Rm.frames + 1 ≤ R.frames) (hlo : (rest.map fun v => v.category).sum + (maxL + 11) + Rm.locals ≤ R.locals) (hc : cells + Rm.cells ≤ R.cells) (hs : slots + Rm.slots ≤ R.slots)
    (K : ∀ v T' L, Stand p l e R s m args below meth c T' (locs ++ L) (cells + Rm.cells) (slots + Rm.slots) → Q v T'.heap L → Go p e below P T' (mkF m (pc + 3) Ls (v.toList ++ rest))) : Go p e below P T (mkF m pc Ls st) := by
  subst hst
  obtain ⟨cq, kq, q1, q2, q3⟩ := isOf hZ eT E
  obtain ⟨v, _, ⟨T', L', k', n'⟩, -, X', ⟨L, hQ, l1, l2, l3⟩, st⟩ := X.virtualBackUp hx (x := y) (y := z) (owner := ow) hown (mvT hZ w1) (mvT hZ w2) (mvT hZ w2') hy (mvT hZ w3) (mvT hZ w4) (backOf (W := (rest.map fun v => v.category).sum) (Q := Q) (Ct []) hZ w6 w5 hfr hlo) q1 q3 (g := mkF m pc Ls (argsL.reverse ++ .ref b :: rest)) rfl hsz (Steps.refl _) (argsL := argsL) (rest := rest) (lenOf hpd hln) rfl (by show 2 * 0 + _ ≤ _; omega) hd (fun _ _ => ⟨rfl, eT, hc, hs⟩)
  dsimp only [Pt.U, Pt.locs, Pt.cells, Pt.slots] at X' l1 l2 l3 st hQ
  subst l1 l2 l3
  exact Go.of (fun _ k => st.trans k) (K v T' L X' hQ)
theorem Go.pureU (X : Stand p l e R s m args below meth c T locs cells slots) (hx : p.tables.exec = Jvm.exec) (hZ : Z.Warmed39 s.vm) {own C ow : String} {index : Nat} {y z : MethodName} {bytes : ByteArray} {maxL : Nat} {ret : Option FieldType} (hown : s.vm.findClass own = some m.cls)
    (w1 : (Cond.methodLink own index y).before a0 Z = true) (w2 : (Cond.sameMethod y.cls ow y.name y.desc).before a0 Z = true) (w2' : (Cond.declares ⟨ow, y.name, y.desc⟩).before a0 Z = true) (w3 : (Cond.selects C y z).before a0 Z = true) (w4 : (Cond.instanceMethod z).before a0 Z = true) (w5 : (Cond.initialized z.cls).before a0 Z = true) (w6 : (Cond.code z bytes maxL ret).before a0 Z = true) (hy : ow ≠ "java/lang/invoke/MethodHandle" ∧ ow ≠ "java/lang/invoke/VarHandle")
    {fr lo : Nat} {V : Option Value} {b : Addr} (argsL rest : List Value) (E : Exa Z h b C) (Ct : Pur l Z z bytes maxL ret fr lo (.ref b :: argsL).toArray h V) (eT : T.heap = h) {pc : Nat} {Ls : Array Slot} {st : List Value} (hst : st = argsL.reverse ++ .ref b :: rest) (hsz : Ls.size = c.maxLocals) {ps : List FieldType} {r : Option FieldType} (hpd : parseMethodDescriptor y.desc = some ⟨ps, r⟩) (hln : argsL.length = ps.length)
    (hd : decode c.code pc = .ok (.invokevirtual index, 3)) (hfr : fr + 1 ≤ R.frames) (hlo : (rest.map fun v => v.category).sum + (maxL + 11) + lo ≤ R.locals) (hc : cells ≤ R.cells) (hs : slots ≤ R.slots)
    (K : ∀ T', Stand p l e R s m args below meth c T' locs cells slots → T'.heap = h → Go p e below P T' (mkF m (pc + 3) Ls (V.toList ++ rest))) : Go p e below P T (mkF m pc Ls st) := by
  refine Go.callU X hx hZ hown w1 w2 w2' w3 w4 w5 w6 hy argsL rest E Ct eT hst hsz hpd hln hd hfr hlo hc hs ?_
  rintro v T' L X' ⟨rfl, rfl, e'⟩
  rw [List.append_nil] at X'
  exact K T' X' e'
theorem Go.callI (X : Stand p l e R s m args below meth c T locs cells slots) (hx : p.tables.exec = Jvm.exec) (hZ : Z.Warmed39 s.vm) {own : String} {index : Nat} {y : MethodName} {bytes : ByteArray} {maxL : Nat} (hyn : y.name = "<init>") (hown : s.vm.findClass own = some m.cls)
    (w1 : (Cond.methodLink own index y).before a0 Z = true) (w2 : (Cond.instanceMethod y).before a0 Z = true) (w3 : (Cond.initialized y.cls).before a0 Z = true) (w4 : (Cond.code y bytes maxL none).before a0 Z = true) (hy : y.cls ≠ "java/lang/invoke/MethodHandle" ∧ y.cls ≠ "java/lang/invoke/VarHandle")
    {Rm : Room} {Q : Option Value → Heap → List Loc → Prop} {b : Addr} (argsL rest : List Value) (C : Ctr l Z y bytes maxL none Rm (.ref b :: argsL).toArray h Q) (eT : T.heap = h) {pc : Nat} {Ls : Array Slot} {st : List Value} (hst : st = argsL.reverse ++ .ref b :: rest) (hsz : Ls.size = c.maxLocals) {ps : List FieldType} {r : Option FieldType} (hpd : parseMethodDescriptor y.desc = some ⟨ps, r⟩) (hln : argsL.length = ps.length)
    (hd : decode c.code pc = .ok (.invokespecial index, 3)) (hfr : Rm.frames + 1 ≤ R.frames) (hlo : (rest.map fun v => v.category).sum + (maxL + 11) + Rm.locals ≤ R.locals) (hc : cells + Rm.cells ≤ R.cells) (hs : slots + Rm.slots ≤ R.slots)
    (K : ∀ v T' L, Stand p l e R s m args below meth c T' (locs ++ L) (cells + Rm.cells) (slots + Rm.slots) → Q v T'.heap L → Go p e below P T' (mkF m (pc + 3) Ls (v.toList ++ rest))) : Go p e below P T (mkF m pc Ls st) := by
  subst hst
  obtain ⟨v, _, ⟨T', L', k', n'⟩, -, X', ⟨L, hQ, l1, l2, l3⟩, st⟩ := X.specialBack hx (y := y) hyn hown (mvT hZ w1) (mvT hZ w2) (mvT hZ w4) hy (backOf (W := (rest.map fun v => v.category).sum) (Q := Q) (C []) hZ w4 w3 hfr hlo) (g := mkF m pc Ls (argsL.reverse ++ .ref b :: rest)) rfl hsz (Steps.refl _) (a := b) (argsL := argsL) (rest := rest) (lenOf hpd hln) rfl (by show 2 * 0 + _ ≤ _; omega) hd (fun _ _ => ⟨rfl, eT, hc, hs⟩)
  dsimp only [Pt.U, Pt.locs, Pt.cells, Pt.slots] at X' l1 l2 l3 st hQ
  subst l1 l2 l3
  exact Go.of (fun _ k => st.trans k) (K v T' L X' hQ)
end Own
theorem own_nf {args : Array Value} {s : State} {C : String} {y y' : MethodName} (hc : y.cls = y'.cls) (hsel : (Cond.selects C y' y').before args s = true) : NotFace s y := fun r0 h0 => by
  obtain ⟨c2, r2, m2, q1, q2, q3, q4, kP, hkP, hkPi⟩ := Cond.selects_spec hsel
  have e1 := findClass_of_methodNamed h0
  have e2 := findClass_of_methodNamed q3
  rw [hc] at e1
  have e3 : r0.cls = m2.cls := Option.some.inj (e1.symm.trans e2)
  exact ⟨kP, e3 ▸ hkP, hkPi⟩
section OwnWords
variable {args : Array Value} {s : State} {a b t i : Term} {v : Value}
theorem own_eqv (g : (Cond.eq a b).value args s none s [] = some true) (hb : b.eval args s none [] s = some v) : a.eval args s none [] s = some v := by
  cases ha : a.eval args s none [] s with
  | none => simp [Cond.value, ha] at g
  | some x => cases x <;> cases v <;> simp [Cond.value, ha, hb] at g ⊢ <;> exact g
theorem own_len {x : Addr} {cl : Cell} {ty : FieldType} {n : Int32} (A : Arr s s.heap x cl ty) (ht : t.eval args s none [] s = some (.ref x)) (g : (Term.length t).eval args s none [] s = some (.int n)) : cl.slots.size < 2 ^ 31 ∧ cl.slots.size.toInt32 = n := by
  have q := A.fin (Vm.Alike.refl _)
  by_cases hl : cl.slots.size < 2 ^ 31
  · refine ⟨hl, ?_⟩
    have e := len_f (args := args) (first := s) (o := none) (idx := []) ht q hl
    exact Value.int.inj (Option.some.inj (e.symm.trans g))
  · simp [Term.eval, ht, q, hl] at g
theorem own_elem {x : Addr} {cl : Cell} {ty : FieldType} {j : Int32} {k : Nat} (A : Arr s s.heap x cl ty) (ht : t.eval args s none [] s = some (.ref x)) (hk : j.toNatClampNeg = k) (g : (Term.elem t (.int j)).eval args s none [] s = some v) : cl.slots[k]? = some v := by
  have e := (elem_in (j := j) (a := .int j) g ht rfl A.1).2
  rw [hk] at e; exact e
end OwnWords
section OwnSteps
variable {p : Program} {l : Launch} {e : Env} {R : Room} {s Z : State} {m : MethodId} {args a0 : Array Value} {below : List Frame} {meth : Method} {c : Code} {T : State} {locs : List Loc} {cells slots : Nat} {h : Heap} {P : Outcome → State → Prop} {pc pc0 : Nat} {Ls : Array Slot} {st : List Value}
theorem Go.iload (X : Stand p l e R s m args below meth c T locs cells slots) (hx : p.tables.exec = Jvm.exec) {k : Nat} {v : Int32} (hd : decode c.code pc0 = .ok (.iload k, 2)) (hpc : pc = pc0) (hl : Ls[k]? = some (.val (.int v))) (K : Go p e below P T (mkF m (pc0 + 2) Ls (.int v :: st))) : Go p e below P T (mkF m pc Ls (st)) := by
  subst hpc
  exact Go.of (fun _ q => XS.iload X.here hx rfl hd hl q) K
theorem Go.iloadN (X : Stand p l e R s m args below meth c T locs cells slots) (hx : p.tables.exec = Jvm.exec) {k : Fin 4} {v : Int32} (hd : decode c.code pc0 = .ok (.iload_n k, 1)) (hpc : pc = pc0) (hl : Ls[k.val]? = some (.val (.int v))) (K : Go p e below P T (mkF m (pc0 + 1) Ls (.int v :: st))) : Go p e below P T (mkF m pc Ls (st)) := by
  subst hpc
  exact Go.of (fun _ q => XS.iloadN X.here hx rfl hd hl q) K
theorem Go.istore (X : Stand p l e R s m args below meth c T locs cells slots) (hx : p.tables.exec = Jvm.exec) {k : Nat} {v : Int32} (hd : decode c.code pc0 = .ok (.istore k, 2)) (hpc : pc = pc0) (l' : Array Slot) (hl : storeLocals Ls k (.int v) = some l') (K : Go p e below P T (mkF m (pc0 + 2) l' (st))) : Go p e below P T (mkF m pc Ls (.int v :: st)) := by
  subst hpc
  exact Go.of (fun _ q => XS.istore X.here hx rfl hd rfl hl q) K
theorem Go.istoreN (X : Stand p l e R s m args below meth c T locs cells slots) (hx : p.tables.exec = Jvm.exec) {k : Fin 4} {v : Int32} (hd : decode c.code pc0 = .ok (.istore_n k, 1)) (hpc : pc = pc0) (l' : Array Slot) (hl : storeLocals Ls k.val (.int v) = some l') (K : Go p e below P T (mkF m (pc0 + 1) l' (st))) : Go p e below P T (mkF m pc Ls (.int v :: st)) := by
  subst hpc
  exact Go.of (fun _ q => XS.istoreN X.here hx rfl hd rfl hl q) K
theorem Go.lload (X : Stand p l e R s m args below meth c T locs cells slots) (hx : p.tables.exec = Jvm.exec) {k : Nat} {v : Int64} (hd : decode c.code pc0 = .ok (.lload k, 2)) (hpc : pc = pc0) (hl : Ls[k]? = some (.val (.long v))) (K : Go p e below P T (mkF m (pc0 + 2) Ls (.long v :: st))) : Go p e below P T (mkF m pc Ls (st)) := by
  subst hpc
  exact Go.of (fun _ q => XS.lload X.here hx rfl hd hl q) K
theorem Go.lloadN (X : Stand p l e R s m args below meth c T locs cells slots) (hx : p.tables.exec = Jvm.exec) {k : Fin 4} {v : Int64} (hd : decode c.code pc0 = .ok (.lload_n k, 1)) (hpc : pc = pc0) (hl : Ls[k.val]? = some (.val (.long v))) (K : Go p e below P T (mkF m (pc0 + 1) Ls (.long v :: st))) : Go p e below P T (mkF m pc Ls (st)) := by
  subst hpc
  exact Go.of (fun _ q => XS.lloadN X.here hx rfl hd hl q) K
theorem Go.lstore (X : Stand p l e R s m args below meth c T locs cells slots) (hx : p.tables.exec = Jvm.exec) {k : Nat} {v : Int64} (hd : decode c.code pc0 = .ok (.lstore k, 2)) (hpc : pc = pc0) (l' : Array Slot) (hl : storeLocals Ls k (.long v) = some l') (K : Go p e below P T (mkF m (pc0 + 2) l' (st))) : Go p e below P T (mkF m pc Ls (.long v :: st)) := by
  subst hpc
  exact Go.of (fun _ q => XS.lstore X.here hx rfl hd rfl hl q) K
theorem Go.lstoreN (X : Stand p l e R s m args below meth c T locs cells slots) (hx : p.tables.exec = Jvm.exec) {k : Fin 4} {v : Int64} (hd : decode c.code pc0 = .ok (.lstore_n k, 1)) (hpc : pc = pc0) (l' : Array Slot) (hl : storeLocals Ls k.val (.long v) = some l') (K : Go p e below P T (mkF m (pc0 + 1) l' (st))) : Go p e below P T (mkF m pc Ls (.long v :: st)) := by
  subst hpc
  exact Go.of (fun _ q => XS.lstoreN X.here hx rfl hd rfl hl q) K
theorem Go.aload (X : Stand p l e R s m args below meth c T locs cells slots) (hx : p.tables.exec = Jvm.exec) {k : Nat} {v : Value} (hd : decode c.code pc0 = .ok (.aload k, 2)) (hpc : pc = pc0) (hl : Ls[k]? = some (.val v)) (hv : v.isRef = true) (K : Go p e below P T (mkF m (pc0 + 2) Ls (v :: st))) : Go p e below P T (mkF m pc Ls (st)) := by
  subst hpc
  exact Go.of (fun _ q => XS.aload X.here hx rfl hd hl hv q) K
theorem Go.aloadN (X : Stand p l e R s m args below meth c T locs cells slots) (hx : p.tables.exec = Jvm.exec) {k : Fin 4} {v : Value} (hd : decode c.code pc0 = .ok (.aload_n k, 1)) (hpc : pc = pc0) (hl : Ls[k.val]? = some (.val v)) (hv : v.isRef = true) (K : Go p e below P T (mkF m (pc0 + 1) Ls (v :: st))) : Go p e below P T (mkF m pc Ls (st)) := by
  subst hpc
  exact Go.of (fun _ q => XS.aloadN X.here hx rfl hd hl hv q) K
theorem Go.astore (X : Stand p l e R s m args below meth c T locs cells slots) (hx : p.tables.exec = Jvm.exec) {k : Nat} {v : Value} (hd : decode c.code pc0 = .ok (.astore k, 2)) (hpc : pc = pc0) (hv : v.isRef = true) (l' : Array Slot) (hl : storeLocals Ls k v = some l') (K : Go p e below P T (mkF m (pc0 + 2) l' (st))) : Go p e below P T (mkF m pc Ls (v :: st)) := by
  subst hpc
  exact Go.of (fun _ q => XS.astore X.here hx rfl hd rfl hv hl q) K
theorem Go.astoreN (X : Stand p l e R s m args below meth c T locs cells slots) (hx : p.tables.exec = Jvm.exec) {k : Fin 4} {v : Value} (hd : decode c.code pc0 = .ok (.astore_n k, 1)) (hpc : pc = pc0) (hv : v.isRef = true) (l' : Array Slot) (hl : storeLocals Ls k.val v = some l') (K : Go p e below P T (mkF m (pc0 + 1) l' (st))) : Go p e below P T (mkF m pc Ls (v :: st)) := by
  subst hpc
  exact Go.of (fun _ q => XS.astoreN X.here hx rfl hd rfl hv hl q) K
theorem Go.iconst (X : Stand p l e R s m args below meth c T locs cells slots) (hx : p.tables.exec = Jvm.exec) {i : Int} (hd : decode c.code pc0 = .ok (.iconst i, 1)) (hpc : pc = pc0) (v : Int32) (hv : Int32.ofInt i = v) (K : Go p e below P T (mkF m (pc0 + 1) Ls (.int v :: st))) : Go p e below P T (mkF m pc Ls (st)) := by
  subst hpc
  subst hv
  exact Go.of (fun _ q => XS.iconst X.here hx rfl hd q) K
theorem Go.bipush (X : Stand p l e R s m args below meth c T locs cells slots) (hx : p.tables.exec = Jvm.exec) {i : Int} (hd : decode c.code pc0 = .ok (.bipush i, 2)) (hpc : pc = pc0) (v : Int32) (hv : (Int8.ofInt i).toInt32 = v) (K : Go p e below P T (mkF m (pc0 + 2) Ls (.int v :: st))) : Go p e below P T (mkF m pc Ls (st)) := by
  subst hpc
  subst hv
  exact Go.of (fun _ q => XS.bipush X.here hx rfl hd q) K
theorem Go.sipush (X : Stand p l e R s m args below meth c T locs cells slots) (hx : p.tables.exec = Jvm.exec) {i : Int} (hd : decode c.code pc0 = .ok (.sipush i, 3)) (hpc : pc = pc0) (v : Int32) (hv : (Int16.ofInt i).toInt32 = v) (K : Go p e below P T (mkF m (pc0 + 3) Ls (.int v :: st))) : Go p e below P T (mkF m pc Ls (st)) := by
  subst hpc
  subst hv
  exact Go.of (fun _ q => XS.sipush X.here hx rfl hd q) K
theorem Go.lconst (X : Stand p l e R s m args below meth c T locs cells slots) (hx : p.tables.exec = Jvm.exec) {k : Fin 2} (hd : decode c.code pc0 = .ok (.lconst k, 1)) (hpc : pc = pc0) (v : Int64) (hv : Int64.ofNat k = v) (K : Go p e below P T (mkF m (pc0 + 1) Ls (.long v :: st))) : Go p e below P T (mkF m pc Ls (st)) := by
  subst hpc
  subst hv
  exact Go.of (fun _ q => XS.lconst X.here hx rfl hd q) K
theorem Go.aconstNull (X : Stand p l e R s m args below meth c T locs cells slots) (hx : p.tables.exec = Jvm.exec)  (hd : decode c.code pc0 = .ok (.aconst_null, 1)) (hpc : pc = pc0)  (K : Go p e below P T (mkF m (pc0 + 1) Ls (.null :: st))) : Go p e below P T (mkF m pc Ls (st)) := by
  subst hpc
  exact Go.of (fun _ q => XS.aconstNull X.here hx rfl hd q) K
theorem Go.iadd (X : Stand p l e R s m args below meth c T locs cells slots) (hx : p.tables.exec = Jvm.exec) {x y : Int32} (hd : decode c.code pc0 = .ok (.iadd, 1)) (hpc : pc = pc0)  (K : Go p e below P T (mkF m (pc0 + 1) Ls (.int (x + y) :: st))) : Go p e below P T (mkF m pc Ls (.int y :: .int x :: st)) := by
  subst hpc
  exact Go.of (fun _ q => XS.iadd X.here hx rfl hd rfl q) K
theorem Go.isub (X : Stand p l e R s m args below meth c T locs cells slots) (hx : p.tables.exec = Jvm.exec) {x y : Int32} (hd : decode c.code pc0 = .ok (.isub, 1)) (hpc : pc = pc0)  (K : Go p e below P T (mkF m (pc0 + 1) Ls (.int (x - y) :: st))) : Go p e below P T (mkF m pc Ls (.int y :: .int x :: st)) := by
  subst hpc
  exact Go.of (fun _ q => XS.isub X.here hx rfl hd rfl q) K
theorem Go.imul (X : Stand p l e R s m args below meth c T locs cells slots) (hx : p.tables.exec = Jvm.exec) {x y : Int32} (hd : decode c.code pc0 = .ok (.imul, 1)) (hpc : pc = pc0)  (K : Go p e below P T (mkF m (pc0 + 1) Ls (.int (x * y) :: st))) : Go p e below P T (mkF m pc Ls (.int y :: .int x :: st)) := by
  subst hpc
  exact Go.of (fun _ q => XS.imul X.here hx rfl hd rfl q) K
theorem Go.iand (X : Stand p l e R s m args below meth c T locs cells slots) (hx : p.tables.exec = Jvm.exec) {x y : Int32} (hd : decode c.code pc0 = .ok (.iand, 1)) (hpc : pc = pc0)  (K : Go p e below P T (mkF m (pc0 + 1) Ls (.int (x &&& y) :: st))) : Go p e below P T (mkF m pc Ls (.int y :: .int x :: st)) := by
  subst hpc
  exact Go.of (fun _ q => XS.iand X.here hx rfl hd rfl q) K
theorem Go.ior (X : Stand p l e R s m args below meth c T locs cells slots) (hx : p.tables.exec = Jvm.exec) {x y : Int32} (hd : decode c.code pc0 = .ok (.ior, 1)) (hpc : pc = pc0)  (K : Go p e below P T (mkF m (pc0 + 1) Ls (.int (x ||| y) :: st))) : Go p e below P T (mkF m pc Ls (.int y :: .int x :: st)) := by
  subst hpc
  exact Go.of (fun _ q => XS.ior X.here hx rfl hd rfl q) K
theorem Go.ixor (X : Stand p l e R s m args below meth c T locs cells slots) (hx : p.tables.exec = Jvm.exec) {x y : Int32} (hd : decode c.code pc0 = .ok (.ixor, 1)) (hpc : pc = pc0)  (K : Go p e below P T (mkF m (pc0 + 1) Ls (.int (x ^^^ y) :: st))) : Go p e below P T (mkF m pc Ls (.int y :: .int x :: st)) := by
  subst hpc
  exact Go.of (fun _ q => XS.ixor X.here hx rfl hd rfl q) K
theorem Go.idiv (X : Stand p l e R s m args below meth c T locs cells slots) (hx : p.tables.exec = Jvm.exec) {x y : Int32} (hd : decode c.code pc0 = .ok (.idiv, 1)) (hpc : pc = pc0) (hy : y ≠ 0) (K : Go p e below P T (mkF m (pc0 + 1) Ls (.int (x / y) :: st))) : Go p e below P T (mkF m pc Ls (.int y :: .int x :: st)) := by
  subst hpc
  exact Go.of (fun _ q => XS.idiv X.here hx rfl hd rfl hy q) K
theorem Go.ineg (X : Stand p l e R s m args below meth c T locs cells slots) (hx : p.tables.exec = Jvm.exec) {x : Int32} (hd : decode c.code pc0 = .ok (.ineg, 1)) (hpc : pc = pc0)  (K : Go p e below P T (mkF m (pc0 + 1) Ls (.int (-x) :: st))) : Go p e below P T (mkF m pc Ls (.int x :: st)) := by
  subst hpc
  exact Go.of (fun _ q => XS.ineg X.here hx rfl hd rfl q) K
theorem Go.ladd (X : Stand p l e R s m args below meth c T locs cells slots) (hx : p.tables.exec = Jvm.exec) {x y : Int64} (hd : decode c.code pc0 = .ok (.ladd, 1)) (hpc : pc = pc0)  (K : Go p e below P T (mkF m (pc0 + 1) Ls (.long (x + y) :: st))) : Go p e below P T (mkF m pc Ls (.long y :: .long x :: st)) := by
  subst hpc
  exact Go.of (fun _ q => XS.ladd X.here hx rfl hd rfl q) K
theorem Go.lsub (X : Stand p l e R s m args below meth c T locs cells slots) (hx : p.tables.exec = Jvm.exec) {x y : Int64} (hd : decode c.code pc0 = .ok (.lsub, 1)) (hpc : pc = pc0)  (K : Go p e below P T (mkF m (pc0 + 1) Ls (.long (x - y) :: st))) : Go p e below P T (mkF m pc Ls (.long y :: .long x :: st)) := by
  subst hpc
  exact Go.of (fun _ q => XS.lsub X.here hx rfl hd rfl q) K
theorem Go.lmul (X : Stand p l e R s m args below meth c T locs cells slots) (hx : p.tables.exec = Jvm.exec) {x y : Int64} (hd : decode c.code pc0 = .ok (.lmul, 1)) (hpc : pc = pc0)  (K : Go p e below P T (mkF m (pc0 + 1) Ls (.long (x * y) :: st))) : Go p e below P T (mkF m pc Ls (.long y :: .long x :: st)) := by
  subst hpc
  exact Go.of (fun _ q => XS.lmul X.here hx rfl hd rfl q) K
theorem Go.land (X : Stand p l e R s m args below meth c T locs cells slots) (hx : p.tables.exec = Jvm.exec) {x y : Int64} (hd : decode c.code pc0 = .ok (.land, 1)) (hpc : pc = pc0)  (K : Go p e below P T (mkF m (pc0 + 1) Ls (.long (x &&& y) :: st))) : Go p e below P T (mkF m pc Ls (.long y :: .long x :: st)) := by
  subst hpc
  exact Go.of (fun _ q => XS.land X.here hx rfl hd rfl q) K
theorem Go.lor (X : Stand p l e R s m args below meth c T locs cells slots) (hx : p.tables.exec = Jvm.exec) {x y : Int64} (hd : decode c.code pc0 = .ok (.lor, 1)) (hpc : pc = pc0)  (K : Go p e below P T (mkF m (pc0 + 1) Ls (.long (x ||| y) :: st))) : Go p e below P T (mkF m pc Ls (.long y :: .long x :: st)) := by
  subst hpc
  exact Go.of (fun _ q => XS.lor X.here hx rfl hd rfl q) K
theorem Go.lxor (X : Stand p l e R s m args below meth c T locs cells slots) (hx : p.tables.exec = Jvm.exec) {x y : Int64} (hd : decode c.code pc0 = .ok (.lxor, 1)) (hpc : pc = pc0)  (K : Go p e below P T (mkF m (pc0 + 1) Ls (.long (x ^^^ y) :: st))) : Go p e below P T (mkF m pc Ls (.long y :: .long x :: st)) := by
  subst hpc
  exact Go.of (fun _ q => XS.lxor X.here hx rfl hd rfl q) K
theorem Go.ldiv (X : Stand p l e R s m args below meth c T locs cells slots) (hx : p.tables.exec = Jvm.exec) {x y : Int64} (hd : decode c.code pc0 = .ok (.ldiv, 1)) (hpc : pc = pc0) (hy : y ≠ 0) (K : Go p e below P T (mkF m (pc0 + 1) Ls (.long (x / y) :: st))) : Go p e below P T (mkF m pc Ls (.long y :: .long x :: st)) := by
  subst hpc
  exact Go.of (fun _ q => XS.ldiv X.here hx rfl hd rfl hy q) K
theorem Go.lneg (X : Stand p l e R s m args below meth c T locs cells slots) (hx : p.tables.exec = Jvm.exec) {x : Int64} (hd : decode c.code pc0 = .ok (.lneg, 1)) (hpc : pc = pc0)  (K : Go p e below P T (mkF m (pc0 + 1) Ls (.long (-x) :: st))) : Go p e below P T (mkF m pc Ls (.long x :: st)) := by
  subst hpc
  exact Go.of (fun _ q => XS.lneg X.here hx rfl hd rfl q) K
theorem Go.irem (X : Stand p l e R s m args below meth c T locs cells slots) (hx : p.tables.exec = Jvm.exec) {x y : Int32} (hd : decode c.code pc0 = .ok (.irem, 1)) (hpc : pc = pc0) (hy : y ≠ 0) (K : Go p e below P T (mkF m (pc0 + 1) Ls (.int (x % y) :: st))) : Go p e below P T (mkF m pc Ls (.int y :: .int x :: st)) := by
  subst hpc
  exact Go.of (fun _ q => iremM X hx rfl hd rfl hy q) K
theorem Go.lrem (X : Stand p l e R s m args below meth c T locs cells slots) (hx : p.tables.exec = Jvm.exec) {x y : Int64} (hd : decode c.code pc0 = .ok (.lrem, 1)) (hpc : pc = pc0) (hy : y ≠ 0) (K : Go p e below P T (mkF m (pc0 + 1) Ls (.long (x - (x / y) * y) :: st))) : Go p e below P T (mkF m pc Ls (.long y :: .long x :: st)) := by
  subst hpc
  exact Go.of (fun _ q => XS.lrem X.here hx rfl hd rfl hy q) K
theorem Go.ishl (X : Stand p l e R s m args below meth c T locs cells slots) (hx : p.tables.exec = Jvm.exec) {x y : Int32} (hd : decode c.code pc0 = .ok (.ishl, 1)) (hpc : pc = pc0)  (K : Go p e below P T (mkF m (pc0 + 1) Ls (.int (x <<< (y &&& 31)) :: st))) : Go p e below P T (mkF m pc Ls (.int y :: .int x :: st)) := by
  subst hpc
  exact Go.of (fun _ q => XS.ishl X.here hx rfl hd rfl q) K
theorem Go.ishr (X : Stand p l e R s m args below meth c T locs cells slots) (hx : p.tables.exec = Jvm.exec) {x y : Int32} (hd : decode c.code pc0 = .ok (.ishr, 1)) (hpc : pc = pc0)  (K : Go p e below P T (mkF m (pc0 + 1) Ls (.int (x >>> (y &&& 31)) :: st))) : Go p e below P T (mkF m pc Ls (.int y :: .int x :: st)) := by
  subst hpc
  exact Go.of (fun _ q => XS.ishr X.here hx rfl hd rfl q) K
theorem Go.iushr (X : Stand p l e R s m args below meth c T locs cells slots) (hx : p.tables.exec = Jvm.exec) {x y : Int32} (hd : decode c.code pc0 = .ok (.iushr, 1)) (hpc : pc = pc0)  (K : Go p e below P T (mkF m (pc0 + 1) Ls (.int ((x.toUInt32 >>> (y &&& 31).toUInt32).toInt32) :: st))) : Go p e below P T (mkF m pc Ls (.int y :: .int x :: st)) := by
  subst hpc
  exact Go.of (fun _ q => XS.iushr X.here hx rfl hd rfl q) K
theorem Go.lshl (X : Stand p l e R s m args below meth c T locs cells slots) (hx : p.tables.exec = Jvm.exec) {x : Int64} {y : Int32} (hd : decode c.code pc0 = .ok (.lshl, 1)) (hpc : pc = pc0)  (K : Go p e below P T (mkF m (pc0 + 1) Ls (.long (x <<< (y &&& 0x3f).toInt64) :: st))) : Go p e below P T (mkF m pc Ls (.int y :: .long x :: st)) := by
  subst hpc
  exact Go.of (fun _ q => XS.lshl X.here hx rfl hd rfl q) K
theorem Go.lshr (X : Stand p l e R s m args below meth c T locs cells slots) (hx : p.tables.exec = Jvm.exec) {x : Int64} {y : Int32} (hd : decode c.code pc0 = .ok (.lshr, 1)) (hpc : pc = pc0)  (K : Go p e below P T (mkF m (pc0 + 1) Ls (.long (x >>> (y &&& 0x3f).toInt64) :: st))) : Go p e below P T (mkF m pc Ls (.int y :: .long x :: st)) := by
  subst hpc
  exact Go.of (fun _ q => XS.lshr X.here hx rfl hd rfl q) K
theorem Go.lushr (X : Stand p l e R s m args below meth c T locs cells slots) (hx : p.tables.exec = Jvm.exec) {x : Int64} {y : Int32} (hd : decode c.code pc0 = .ok (.lushr, 1)) (hpc : pc = pc0)  (K : Go p e below P T (mkF m (pc0 + 1) Ls (.long ((x.toUInt64 >>> (y &&& 0x3f).toInt64.toUInt64).toInt64) :: st))) : Go p e below P T (mkF m pc Ls (.int y :: .long x :: st)) := by
  subst hpc
  exact Go.of (fun _ q => XS.lushr X.here hx rfl hd rfl q) K
theorem Go.i2l (X : Stand p l e R s m args below meth c T locs cells slots) (hx : p.tables.exec = Jvm.exec) {x : Int32} (hd : decode c.code pc0 = .ok (.i2l, 1)) (hpc : pc = pc0)  (K : Go p e below P T (mkF m (pc0 + 1) Ls (.long x.toInt64 :: st))) : Go p e below P T (mkF m pc Ls (.int x :: st)) := by
  subst hpc
  exact Go.of (fun _ q => XS.i2l X.here hx rfl hd rfl q) K
theorem Go.l2i (X : Stand p l e R s m args below meth c T locs cells slots) (hx : p.tables.exec = Jvm.exec) {x : Int64} (hd : decode c.code pc0 = .ok (.l2i, 1)) (hpc : pc = pc0)  (K : Go p e below P T (mkF m (pc0 + 1) Ls (.int x.toInt32 :: st))) : Go p e below P T (mkF m pc Ls (.long x :: st)) := by
  subst hpc
  exact Go.of (fun _ q => XS.l2i X.here hx rfl hd rfl q) K
theorem Go.i2b (X : Stand p l e R s m args below meth c T locs cells slots) (hx : p.tables.exec = Jvm.exec) {x : Int32} (hd : decode c.code pc0 = .ok (.i2b, 1)) (hpc : pc = pc0)  (K : Go p e below P T (mkF m (pc0 + 1) Ls (.int x.toInt8.toInt32 :: st))) : Go p e below P T (mkF m pc Ls (.int x :: st)) := by
  subst hpc
  exact Go.of (fun _ q => XS.i2b X.here hx rfl hd rfl q) K
theorem Go.i2s (X : Stand p l e R s m args below meth c T locs cells slots) (hx : p.tables.exec = Jvm.exec) {x : Int32} (hd : decode c.code pc0 = .ok (.i2s, 1)) (hpc : pc = pc0)  (K : Go p e below P T (mkF m (pc0 + 1) Ls (.int x.toInt16.toInt32 :: st))) : Go p e below P T (mkF m pc Ls (.int x :: st)) := by
  subst hpc
  exact Go.of (fun _ q => XS.i2s X.here hx rfl hd rfl q) K
theorem Go.i2c (X : Stand p l e R s m args below meth c T locs cells slots) (hx : p.tables.exec = Jvm.exec) {x : Int32} (hd : decode c.code pc0 = .ok (.i2c, 1)) (hpc : pc = pc0)  (K : Go p e below P T (mkF m (pc0 + 1) Ls (.int x.toUInt32.toUInt16.toUInt32.toInt32 :: st))) : Go p e below P T (mkF m pc Ls (.int x :: st)) := by
  subst hpc
  exact Go.of (fun _ q => XS.i2c X.here hx rfl hd rfl q) K
theorem Go.lcmp (X : Stand p l e R s m args below meth c T locs cells slots) (hx : p.tables.exec = Jvm.exec) {x y : Int64} (hd : decode c.code pc0 = .ok (.lcmp, 1)) (hpc : pc = pc0)  (K : Go p e below P T (mkF m (pc0 + 1) Ls (.int (lcmpW x y) :: st))) : Go p e below P T (mkF m pc Ls (.long y :: .long x :: st)) := by
  subst hpc
  exact Go.of (fun _ q => XS.lcmp X.here hx rfl hd rfl q) K
theorem Go.dup (X : Stand p l e R s m args below meth c T locs cells slots) (hx : p.tables.exec = Jvm.exec) {x : Value} (hd : decode c.code pc0 = .ok (.dup, 1)) (hpc : pc = pc0) (hc : x.category = 1) (K : Go p e below P T (mkF m (pc0 + 1) Ls (x :: x :: st))) : Go p e below P T (mkF m pc Ls (x :: st)) := by
  subst hpc
  exact Go.of (fun _ q => XS.dup X.here hx rfl hd rfl hc q) K
theorem Go.dupX1 (X : Stand p l e R s m args below meth c T locs cells slots) (hx : p.tables.exec = Jvm.exec) {x y : Value} (hd : decode c.code pc0 = .ok (.dup_x1, 1)) (hpc : pc = pc0) (hc : x.category = 1) (hc' : y.category = 1) (K : Go p e below P T (mkF m (pc0 + 1) Ls (x :: y :: x :: st))) : Go p e below P T (mkF m pc Ls (x :: y :: st)) := by
  subst hpc
  exact Go.of (fun _ q => XS.dupX1 X.here hx rfl hd rfl hc hc' q) K
theorem Go.dup2 (X : Stand p l e R s m args below meth c T locs cells slots) (hx : p.tables.exec = Jvm.exec) {x y : Value} (hd : decode c.code pc0 = .ok (.dup2, 1)) (hpc : pc = pc0) (hc : x.category = 1) (hc' : y.category = 1) (K : Go p e below P T (mkF m (pc0 + 1) Ls (x :: y :: x :: y :: st))) : Go p e below P T (mkF m pc Ls (x :: y :: st)) := by
  subst hpc
  exact Go.of (fun _ q => XT.dup2 X.here hx rfl hd rfl hc hc' q) K
theorem Go.pop (X : Stand p l e R s m args below meth c T locs cells slots) (hx : p.tables.exec = Jvm.exec) {x : Value} (hd : decode c.code pc0 = .ok (.pop, 1)) (hpc : pc = pc0) (hc : x.category = 1) (K : Go p e below P T (mkF m (pc0 + 1) Ls (st))) : Go p e below P T (mkF m pc Ls (x :: st)) := by
  subst hpc
  exact Go.of (fun _ q => XS.pop X.here hx rfl hd rfl hc q) K
theorem Go.iinc (X : Stand p l e R s m args below meth c T locs cells slots) (hx : p.tables.exec = Jvm.exec) {k : Nat} {cst : Int} {x : Int32} (hd : decode c.code pc0 = .ok (.iinc k cst, 3)) (hpc : pc = pc0) (hl : Ls[k]? = some (.val (.int x))) (l' : Array Slot) (hl' : storeLocals Ls k (.int (x + Int32.ofInt cst)) = some l') (K : Go p e below P T (mkF m (pc0 + 3) l' (st))) : Go p e below P T (mkF m pc Ls (st)) := by
  subst hpc
  exact Go.of (fun _ q => XS.iinc X.here hx rfl hd hl hl' q) K
theorem Go.goto (X : Stand p l e R s m args below meth c T locs cells slots) (hx : p.tables.exec = Jvm.exec)  {o : Int} (hd : decode c.code pc0 = .ok (.goto o, 3)) (hpc : pc = pc0) (pc' : Nat)  (ho : 0 ≤ (pc0 : Int) + o) (hp : ((pc0 : Int) + o).toNat = pc') (K : Go p e below P T (mkF m pc' Ls st)) : Go p e below P T (mkF m pc Ls (st)) := by
  subst hpc
  exact Go.of (fun _ q => XS.goto X.here hx rfl rfl hd ho hp q) K
theorem Go.ifYes (X : Stand p l e R s m args below meth c T locs cells slots) (hx : p.tables.exec = Jvm.exec) {cd : ClassFile.Cond} {x : Int32} {o : Int} (hd : decode c.code pc0 = .ok (.ifCond cd o, 3)) (hpc : pc = pc0) (pc' : Nat) (hc : ifCond.holds cd x = true) (ho : 0 ≤ (pc0 : Int) + o) (hp : ((pc0 : Int) + o).toNat = pc') (K : Go p e below P T (mkF m pc' Ls st)) : Go p e below P T (mkF m pc Ls (.int x :: st)) := by
  subst hpc
  exact Go.of (fun _ q => XS.ifYes X.here hx rfl rfl hd rfl hc ho hp q) K
theorem Go.icmpYes (X : Stand p l e R s m args below meth c T locs cells slots) (hx : p.tables.exec = Jvm.exec) {cd : ClassFile.Cond} {x y : Int32} {o : Int} (hd : decode c.code pc0 = .ok (.if_icmp cd o, 3)) (hpc : pc = pc0) (pc' : Nat) (hc : if_icmp.holds cd x y = true) (ho : 0 ≤ (pc0 : Int) + o) (hp : ((pc0 : Int) + o).toNat = pc') (K : Go p e below P T (mkF m pc' Ls st)) : Go p e below P T (mkF m pc Ls (.int y :: .int x :: st)) := by
  subst hpc
  exact Go.of (fun _ q => XS.icmpYes X.here hx rfl rfl hd rfl hc ho hp q) K
theorem Go.ifnullYes (X : Stand p l e R s m args below meth c T locs cells slots) (hx : p.tables.exec = Jvm.exec)  {o : Int} (hd : decode c.code pc0 = .ok (.ifnull o, 3)) (hpc : pc = pc0) (pc' : Nat)  (ho : 0 ≤ (pc0 : Int) + o) (hp : ((pc0 : Int) + o).toNat = pc') (K : Go p e below P T (mkF m pc' Ls st)) : Go p e below P T (mkF m pc Ls (.null :: st)) := by
  subst hpc
  exact Go.of (fun _ q => XS.ifnullYes X.here hx rfl rfl hd rfl ho hp q) K
theorem Go.ifnonnullYes (X : Stand p l e R s m args below meth c T locs cells slots) (hx : p.tables.exec = Jvm.exec) {b : Addr} {o : Int} (hd : decode c.code pc0 = .ok (.ifnonnull o, 3)) (hpc : pc = pc0) (pc' : Nat)  (ho : 0 ≤ (pc0 : Int) + o) (hp : ((pc0 : Int) + o).toNat = pc') (K : Go p e below P T (mkF m pc' Ls st)) : Go p e below P T (mkF m pc Ls (.ref b :: st)) := by
  subst hpc
  exact Go.of (fun _ q => XS.ifnonnullYes X.here hx rfl rfl hd rfl ho hp q) K
theorem Go.ifNo (X : Stand p l e R s m args below meth c T locs cells slots) (hx : p.tables.exec = Jvm.exec) {cd : ClassFile.Cond} {o : Int} {x : Int32} (hd : decode c.code pc0 = .ok (.ifCond cd o, 3)) (hpc : pc = pc0) (hc : ifCond.holds cd x = false) (K : Go p e below P T (mkF m (pc0 + 3) Ls (st))) : Go p e below P T (mkF m pc Ls (.int x :: st)) := by
  subst hpc
  exact Go.of (fun _ q => XS.ifNo X.here hx rfl hd rfl hc q) K
theorem Go.icmpNo (X : Stand p l e R s m args below meth c T locs cells slots) (hx : p.tables.exec = Jvm.exec) {cd : ClassFile.Cond} {o : Int} {x y : Int32} (hd : decode c.code pc0 = .ok (.if_icmp cd o, 3)) (hpc : pc = pc0) (hc : if_icmp.holds cd x y = false) (K : Go p e below P T (mkF m (pc0 + 3) Ls (st))) : Go p e below P T (mkF m pc Ls (.int y :: .int x :: st)) := by
  subst hpc
  exact Go.of (fun _ q => XS.icmpNo X.here hx rfl hd rfl hc q) K
theorem Go.ifnullNo (X : Stand p l e R s m args below meth c T locs cells slots) (hx : p.tables.exec = Jvm.exec) {o : Int} {b : Addr} (hd : decode c.code pc0 = .ok (.ifnull o, 3)) (hpc : pc = pc0)  (K : Go p e below P T (mkF m (pc0 + 3) Ls (st))) : Go p e below P T (mkF m pc Ls (.ref b :: st)) := by
  subst hpc
  exact Go.of (fun _ q => XS.ifnullNo X.here hx rfl hd rfl q) K
theorem Go.ifnonnullNo (X : Stand p l e R s m args below meth c T locs cells slots) (hx : p.tables.exec = Jvm.exec) {o : Int} (hd : decode c.code pc0 = .ok (.ifnonnull o, 3)) (hpc : pc = pc0)  (K : Go p e below P T (mkF m (pc0 + 3) Ls (st))) : Go p e below P T (mkF m pc Ls (.null :: st)) := by
  subst hpc
  exact Go.of (fun _ q => XS.ifnonnullNo X.here hx rfl hd rfl q) K
theorem Go.acmp (X : Stand p l e R s m args below meth c T locs cells slots) (hx : p.tables.exec = Jvm.exec) {cd : ACond} {x y : Value} {o : Int} (hd : decode c.code pc0 = .ok (.if_acmp cd o, 3)) (hpc : pc = pc0) (h1 : x.isRef = true) (h2 : y.isRef = true) (same : Bool) (hq : decide (x = y) = same) (pc' : Nat) (ho : 0 ≤ (pc0 : Int) + o) (hp : pc' = if acV cd same = true then ((pc0 : Int) + o).toNat else pc0 + 3) (K : Go p e below P T (mkF m pc' Ls st)) : Go p e below P T (mkF m pc Ls (y :: x :: st)) := by
  subst hpc
  exact Go.of (fun _ q => Jvm.RoadKit.acmp X hx rfl h1 h2 rfl hd rfl hq ho hp q) K
theorem Go.tswIn (X : Stand p l e R s m args below meth c T locs cells slots) (hx : p.tables.exec = Jvm.exec) {dflt low high : Int} {offs : Array Int} {len : Nat} {o : Int} {i : Int32} (hd : decode c.code pc0 = .ok (.tableswitch dflt low high offs, len)) (hpc : pc = pc0) (pc' : Nat) (hin : ¬ (i.toInt < low ∨ i.toInt > high)) (hoff : offs[(i.toInt - low).toNat]? = some o) (ho : 0 ≤ (pc0 : Int) + o) (hp : ((pc0 : Int) + o).toNat = pc') (K : Go p e below P T (mkF m pc' Ls st)) : Go p e below P T (mkF m pc Ls (.int i :: st)) := by
  subst hpc
  exact Go.of (fun _ q => XS.tswIn X.here hx rfl rfl hd rfl hin hoff ho hp q) K
theorem Go.ldc (X : Stand p l e R s m args below meth c T locs cells slots) (hx : p.tables.exec = Jvm.exec) (hZ : Z.Warmed39 s.vm) {own : String} {index : Nat} (hown : s.vm.findClass own = some m.cls) {v : Int32} (w : (Cond.constant own index v).before a0 Z = true) (hd : decode c.code pc0 = .ok (.ldc index, 2)) (hpc : pc = pc0) (K : Go p e below P T (mkF m (pc0 + 2) Ls (.int v :: st))) : Go p e below P T (mkF m pc Ls st) := by
  subst hpc
  exact Go.of (fun _ q => X.ldcInt hx hown (mvT hZ w) (g := mkF m pc Ls st) rfl hd _ q) K
theorem Go.ldc_w (X : Stand p l e R s m args below meth c T locs cells slots) (hx : p.tables.exec = Jvm.exec) (hZ : Z.Warmed39 s.vm) {own : String} {index : Nat} (hown : s.vm.findClass own = some m.cls) {v : Int32} (w : (Cond.constant own index v).before a0 Z = true) (hd : decode c.code pc0 = .ok (.ldc_w index, 3)) (hpc : pc = pc0) (K : Go p e below P T (mkF m (pc0 + 3) Ls (.int v :: st))) : Go p e below P T (mkF m pc Ls st) := by
  subst hpc
  exact Go.of (fun _ q => X.ldcwInt hx hown (mvT hZ w) (g := mkF m pc Ls st) rfl hd _ q) K
theorem Go.ldc2_w (X : Stand p l e R s m args below meth c T locs cells slots) (hx : p.tables.exec = Jvm.exec) (hZ : Z.Warmed39 s.vm) {own : String} {index : Nat} (hown : s.vm.findClass own = some m.cls) {v : Int64} (w : (Cond.constantLong own index v).before a0 Z = true) (hd : decode c.code pc0 = .ok (.ldc2_w index, 3)) (hpc : pc = pc0) (K : Go p e below P T (mkF m (pc0 + 3) Ls (.long v :: st))) : Go p e below P T (mkF m pc Ls st) := by
  subst hpc
  exact Go.of (fun _ q => X.ldc2Long hx hown (mvT hZ w) (g := mkF m pc Ls st) rfl hd _ q) K
theorem Go.getS (X : Stand p l e R s m args below meth c T locs cells slots) (hx : p.tables.exec = Jvm.exec) (hZ : Z.Warmed39 s.vm) {own : String} {index : Nat} (hown : s.vm.findClass own = some m.cls) {R0 O n d host : String} {v : Value} (w : (Cond.fieldLink own index R0 n d).before a0 Z = true ∨ (Cond.fieldLinkNest own index R0 n d host).before a0 Z = true) (via : Via Z R0 O n d) (eT : T.heap = h) (F : Sta Z h O n d v) (hd : decode c.code pc0 = .ok (.getstatic index, 3)) (hpc : pc = pc0) (K : ∀ T', Stand p l e R s m args below meth c T' locs cells slots → T'.heap = h → Go p e below P T' (mkF m (pc0 + 3) Ls (v :: st))) : Go p e below P T (mkF m pc Ls st) := by
  subst hpc
  obtain ⟨T', X', e', q⟩ := getS2 X hx hZ hown w via eT F (g := mkF m pc Ls st) rfl hd
  exact Go.of q (K T' X' e')
theorem Go.getF (X : Stand p l e R s m args below meth c T locs cells slots) (hx : p.tables.exec = Jvm.exec) (hZ : Z.Warmed39 s.vm) {own : String} {index : Nat} (hown : s.vm.findClass own = some m.cls) {R0 O n d host : String} {a : Addr} {v : Value} (w : (Cond.fieldLink own index R0 n d).before a0 Z = true ∨ (Cond.fieldLinkNest own index R0 n d host).before a0 Z = true) (via : Via Z R0 O n d) (eT : T.heap = h) (F : Fld Z h a O n d v) (hd : decode c.code pc0 = .ok (.getfield index, 3)) (hpc : pc = pc0) (K : ∀ T', Stand p l e R s m args below meth c T' locs cells slots → T'.heap = h → Go p e below P T' (mkF m (pc0 + 3) Ls (v :: st))) : Go p e below P T (mkF m pc Ls (.ref a :: st)) := by
  subst hpc
  obtain ⟨T', X', e', q⟩ := Jvm.RoadKit.getF X hx hZ hown w via eT F (g := mkF m pc Ls (.ref a :: st)) rfl rfl hd
  exact Go.of q (K T' X' e')
theorem Go.putF (X : Stand p l e R s m args below meth c T locs cells slots) (hx : p.tables.exec = Jvm.exec) (hZ : Z.Warmed39 s.vm) {own : String} {index : Nat} (hown : s.vm.findClass own = some m.cls) {R0 O n d host C : String} {kk : Nat} {a : Addr} {v old : Value} {ty : FieldType} (w : (Cond.fieldLink own index R0 n d).before a0 Z = true ∨ (Cond.fieldLinkNest own index R0 n d host).before a0 Z = true) (via : Via Z R0 O n d) (eT : T.heap = h) (F : Fld Z h a O n d old) (E : Exa Z h a C) (L : (Cond.lays C O n d).before a0 Z = true ∨ ((Cond.laysFinal C O n d).before a0 Z = true ∧ own = O ∧ meth.name = "<init>")) (wi : (Cond.instantiable C kk).before a0 Z = true) (hty : parseFieldDescriptor d = some ty) (hn : narrow ty v = v) (hf : fits ty v = true) (hd : decode c.code pc0 = .ok (.putfield index, 3)) (hpc : pc = pc0)
    (K : ∀ T' h', Stand p l e R s m args below meth c T' (locs ++ [⟨a, Jvm.RoadKit.slotOf Z O n d⟩]) cells slots → T'.heap = h' → Wr h h' a (Jvm.RoadKit.slotOf Z O n d) v → Fld Z h' a O n d v → Go p e below P T' (mkF m (pc0 + 3) Ls st)) : Go p e below P T (mkF m pc Ls (v :: .ref a :: st)) := by
  subst hpc
  obtain ⟨T', h', X', e', W, q⟩ := Jvm.RoadKit.putF X hx hZ hown w via eT F E L wi hty hn hf (g := mkF m pc Ls (v :: .ref a :: st)) rfl rfl hd
  exact Go.of q (K T' h' X' e' W (F.same W))
theorem Go.newO (X : Stand p l e R s m args below meth c T locs cells slots) (hx : p.tables.exec = Jvm.exec) (hZ : Z.Warmed39 s.vm) {own : String} {index : Nat} (hown : s.vm.findClass own = some m.cls) {C : String} {n : Nat} (w : (Cond.classLink own index C).before a0 Z = true) (wi : (Cond.instantiable C n).before a0 Z = true) (wz : (Cond.initialized C).before a0 Z = true) (eT : T.heap = h) (hd : decode c.code pc0 = .ok (.new index, 3)) (hpc : pc = pc0) (hc : cells + 1 ≤ R.cells) (hl : slots + n ≤ R.slots)
    (K : ∀ T' h' b, b = h.size → Stand p l e R s m args below meth c T' locs (cells + 1) (slots + n) → T'.heap = h' → Ext h h' → Exa Z h' b C → (∀ {O nm d : String} {ty : FieldType}, Laid Z a0 C O nm d → parseFieldDescriptor d = some ty → Fld Z h' b O nm d (defaultValue ty)) → Go p e below P T' (mkF m (pc0 + 3) Ls (.ref b :: st))) : Go p e below P T (mkF m pc Ls st) := by
  subst hpc
  obtain ⟨T', h', X', e', E, A, D, -, q⟩ := Jvm.RoadKit.newO X hx hZ hown w wi wz eT (g := mkF m pc Ls st) rfl hd hc hl
  exact Go.of q (K T' h' _ rfl X' e' E A D)
theorem Go.initO (X : Stand p l e R s m args below meth c T locs cells slots) (hx : p.tables.exec = Jvm.exec) (hZ : Z.Warmed39 s.vm) {own : String} {index : Nat} (hown : s.vm.findClass own = some m.cls) (w1 : (Cond.methodLink own index Lib.objectInit).before a0 Z = true) (w2 : (Cond.instanceMethod Lib.objectInit).before a0 Z = true) (w3 : (Cond.code Lib.objectInit ⟨#[0xb1]⟩ 1 none).before a0 Z = true) (eT : T.heap = h) (hsz : Ls.size = c.maxLocals) {a : Addr} (hd : decode c.code pc0 = .ok (.invokespecial index, 3)) (hpc : pc = pc0) (hf : 1 ≤ R.frames) (hl : (st.map fun v => v.category).sum + 12 ≤ R.locals) (K : ∀ T', Stand p l e R s m args below meth c T' locs cells slots → T'.heap = h → Go p e below P T' (mkF m (pc0 + 3) Ls (st))) : Go p e below P T (mkF m pc Ls (.ref a :: st)) := by
  subst hpc
  obtain ⟨T', X', e', q⟩ := Jvm.RoadKit.initO X hx hZ hown w1 w2 w3 eT (g := mkF m pc Ls (.ref a :: st)) rfl hsz rfl hd hf (W := (st.map fun v => v.category).sum) (by show 2 * 0 + _ ≤ _; omega) hl
  exact Go.of q (K T' X' e')
theorem Go.alen (X : Stand p l e R s m args below meth c T locs cells slots) (hx : p.tables.exec = Jvm.exec) (hZ : Z.Warmed39 s.vm) {a : Addr} {k : ClassId} {ty : FieldType} {n : Int32} {vs : List Value} {dv : Value} (A : Arv Z h a k ty n vs dv) (eT : T.heap = h) (hd : decode c.code pc0 = .ok (.arraylength, 1)) (hpc : pc = pc0) (K : Go p e below P T (mkF m (pc0 + 1) Ls (.int n :: st))) : Go p e below P T (mkF m pc Ls (.ref a :: st)) := by
  subst hpc
  obtain ⟨cl, Ar, -, Sz, Ng, -, -⟩ := A
  refine Go.of (fun _ q => X.arraylength hx (by rw [eT]; exact Ar.1) (State.isArrayOf_alike hZ.alike Ar.2.1) (g := mkF m pc Ls (.ref a :: st)) rfl rfl hd _ q) ?_
  rw [len_of Sz Ng]
  exact K
theorem Go.iaload (X : Stand p l e R s m args below meth c T locs cells slots) (hx : p.tables.exec = Jvm.exec) (hZ : Z.Warmed39 s.vm) {a : Addr} {k : ClassId} {n : Int32} {vs : List Value} {dv : Value} {j : Int32} (v : Value) (A : Arv Z h a k .int n vs dv) (eT : T.heap = h) (hj : ¬ j < 0 ∧ j < n) (hv : vs.getD j.toNatClampNeg dv = v) (hd : decode c.code pc0 = .ok (.iaload, 1)) (hpc : pc = pc0) (K : Go p e below P T (mkF m (pc0 + 1) Ls (v :: st))) : Go p e below P T (mkF m pc Ls (.int j :: .ref a :: st)) := by
  subst hpc
  obtain ⟨cl, Ar, -, Sz, Ng, Hs, -⟩ := A
  have hin : ¬ (j < 0 ∨ cl.slots.size ≤ j.toNatClampNeg) := inb_of Sz hj
  exact Go.of (fun _ q => X.iaload hx (j := j) (v := v) (by rw [eT]; exact Ar.1) (State.isArrayOf_alike hZ.alike Ar.2.1) Ar.2.2 hin (Has.at Hs hin hv) (g := mkF m pc Ls (.int j :: .ref a :: st)) rfl rfl hd _ q) K
theorem Go.laload (X : Stand p l e R s m args below meth c T locs cells slots) (hx : p.tables.exec = Jvm.exec) (hZ : Z.Warmed39 s.vm) {a : Addr} {k : ClassId} {n : Int32} {vs : List Value} {dv : Value} {j : Int32} (v : Value) (A : Arv Z h a k .long n vs dv) (eT : T.heap = h) (hj : ¬ j < 0 ∧ j < n) (hv : vs.getD j.toNatClampNeg dv = v) (hd : decode c.code pc0 = .ok (.laload, 1)) (hpc : pc = pc0) (K : Go p e below P T (mkF m (pc0 + 1) Ls (v :: st))) : Go p e below P T (mkF m pc Ls (.int j :: .ref a :: st)) := by
  subst hpc
  obtain ⟨cl, Ar, -, Sz, Ng, Hs, -⟩ := A
  have hin : ¬ (j < 0 ∨ cl.slots.size ≤ j.toNatClampNeg) := inb_of Sz hj
  exact Go.of (fun _ q => X.laload hx (j := j) (v := v) (by rw [eT]; exact Ar.1) (State.isArrayOf_alike hZ.alike Ar.2.1) Ar.2.2 hin (Has.at Hs hin hv) (g := mkF m pc Ls (.int j :: .ref a :: st)) rfl rfl hd _ q) K
theorem Go.aaload (X : Stand p l e R s m args below meth c T locs cells slots) (hx : p.tables.exec = Jvm.exec) (hZ : Z.Warmed39 s.vm) {a : Addr} {k : ClassId} {ty : FieldType} {n : Int32} {vs : List Value} {dv : Value} {j : Int32} (v : Value) (A : Arv Z h a k ty n vs dv) (eT : T.heap = h) (hty : ty.isReference = true) (hj : ¬ j < 0 ∧ j < n) (hv : vs.getD j.toNatClampNeg dv = v) (hd : decode c.code pc0 = .ok (.aaload, 1)) (hpc : pc = pc0) (K : Go p e below P T (mkF m (pc0 + 1) Ls (v :: st))) : Go p e below P T (mkF m pc Ls (.int j :: .ref a :: st)) := by
  subst hpc
  obtain ⟨cl, Ar, -, Sz, Ng, Hs, -⟩ := A
  have hin : ¬ (j < 0 ∨ cl.slots.size ≤ j.toNatClampNeg) := inb_of Sz hj
  exact Go.of (fun _ q => X.aaload hx (j := j) (v := v) (by rw [eT]; exact Ar.1) (State.isArrayOf_alike hZ.alike Ar.2.1) hty Ar.2.2 hin (Has.at Hs hin hv) (g := mkF m pc Ls (.int j :: .ref a :: st)) rfl rfl hd _ q) K
theorem Go.iastore (X : Stand p l e R s m args below meth c T locs cells slots) (hx : p.tables.exec = Jvm.exec) (hZ : Z.Warmed39 s.vm) {a : Addr} {k : ClassId} {n : Int32} {vs : List Value} {dv : Value} {j : Int32} {x : Int32} (A : Arv Z h a k .int n vs dv) (eT : T.heap = h) (hj : ¬ j < 0 ∧ j < n) (i : Nat) (hi : j.toNatClampNeg = i) (hl : i < vs.length) (hd : decode c.code pc0 = .ok (.iastore, 1)) (hpc : pc = pc0)
    (K : ∀ T' h', Stand p l e R s m args below meth c T' (locs ++ [⟨a, j.toNatClampNeg⟩]) cells slots → T'.heap = h' → Wr h h' a j.toNatClampNeg (.int x) → Arv Z h' a k .int n (vs.set i (.int x)) dv → Go p e below P T' (mkF m (pc0 + 1) Ls st)) : Go p e below P T (mkF m pc Ls (.int x :: .int j :: .ref a :: st)) := by
  subst hpc
  obtain ⟨cl, Ar, cq, Sz, Ng, Hs, Gs⟩ := A
  have hin : ¬ (j < 0 ∨ cl.slots.size ≤ j.toNatClampNeg) := inb_of Sz hj
  obtain ⟨T', h', X', e', W, q⟩ := stI X hx hZ eT Ar (j := j) hin (g := mkF m pc Ls (.int x :: .int j :: .ref a :: st)) rfl rfl hd
  exact Go.of q (K T' h' X' e' W (Arv.set Ar cq Sz Ng Hs Gs rfl W i hi hl))
theorem Go.lastore (X : Stand p l e R s m args below meth c T locs cells slots) (hx : p.tables.exec = Jvm.exec) (hZ : Z.Warmed39 s.vm) {a : Addr} {k : ClassId} {n : Int32} {vs : List Value} {dv : Value} {j : Int32} {x : Int64} (A : Arv Z h a k .long n vs dv) (eT : T.heap = h) (hj : ¬ j < 0 ∧ j < n) (i : Nat) (hi : j.toNatClampNeg = i) (hl : i < vs.length) (hd : decode c.code pc0 = .ok (.lastore, 1)) (hpc : pc = pc0)
    (K : ∀ T' h', Stand p l e R s m args below meth c T' (locs ++ [⟨a, j.toNatClampNeg⟩]) cells slots → T'.heap = h' → Wr h h' a j.toNatClampNeg (.long x) → Arv Z h' a k .long n (vs.set i (.long x)) dv → Go p e below P T' (mkF m (pc0 + 1) Ls st)) : Go p e below P T (mkF m pc Ls (.long x :: .int j :: .ref a :: st)) := by
  subst hpc
  obtain ⟨cl, Ar, cq, Sz, Ng, Hs, Gs⟩ := A
  have hin : ¬ (j < 0 ∨ cl.slots.size ≤ j.toNatClampNeg) := inb_of Sz hj
  obtain ⟨T', h', X', e', W, q⟩ := stJ X hx hZ eT Ar (j := j) hin (g := mkF m pc Ls (.long x :: .int j :: .ref a :: st)) rfl rfl hd
  exact Go.of q (K T' h' X' e' W (Arv.set Ar cq Sz Ng Hs Gs rfl W i hi hl))
theorem Go.aastore (X : Stand p l e R s m args below meth c T locs cells slots) (hx : p.tables.exec = Jvm.exec) (hZ : Z.Warmed39 s.vm) {a : Addr} {k : ClassId} {ty : FieldType} {n : Int32} {vs : List Value} {dv : Value} {j : Int32} {v : Value} (A : Arv Z h a k ty n vs dv) (eT : T.heap = h) (hj : ¬ j < 0 ∧ j < n) (i : Nat) (hi : j.toNatClampNeg = i) (hl : i < vs.length) (hty : ty.isReference = true) (hfv : fits ty v = true) (F : ∀ cl, Arr Z h a cl ty → cl.cls = k → Sto Z h a v) (hd : decode c.code pc0 = .ok (.aastore, 1)) (hpc : pc = pc0)
    (K : ∀ T' h', Stand p l e R s m args below meth c T' (locs ++ [⟨a, j.toNatClampNeg⟩]) cells slots → T'.heap = h' → Wr h h' a j.toNatClampNeg (v) → Arv Z h' a k ty n (vs.set i (v)) dv → Go p e below P T' (mkF m (pc0 + 1) Ls st)) : Go p e below P T (mkF m pc Ls (v :: .int j :: .ref a :: st)) := by
  subst hpc
  obtain ⟨cl, Ar, cq, Sz, Ng, Hs, Gs⟩ := A
  have hin : ¬ (j < 0 ∨ cl.slots.size ≤ j.toNatClampNeg) := inb_of Sz hj
  obtain ⟨T', h', X', e', W, q⟩ := stR X hx hZ eT Ar (j := j) hin hty (F cl Ar cq) (g := mkF m pc Ls (v :: .int j :: .ref a :: st)) rfl rfl hd
  exact Go.of q (K T' h' X' e' W (Arv.set Ar cq Sz Ng Hs Gs hfv W i hi hl))
theorem Go.newP (X : Stand p l e R s m args below meth c T locs cells slots) (hx : p.tables.exec = Jvm.exec) (hZ : Z.Warmed39 s.vm) {aty : ArrayType} {n : Int32} (w : (Cond.arrayClass (newarray.typeOf aty)).before a0 Z = true) (eT : T.heap = h) (u : Nat) (hn : ¬ n < 0) (cap : Nat) (hcap : n.toNatClampNeg ≤ cap) (hb : cap * 8 ≤ 536870912) (hc : cells + 1 ≤ R.cells) (hl : slots + cap ≤ R.slots) (ad : String) (had : "[" ++ (newarray.typeOf aty).toString = ad) (hd : decode c.code pc0 = .ok (.newarray aty, 2)) (hpc : pc = pc0)
    (K : ∀ T' h' b k, b = h.size → Stand p l e R s m args below meth c T' locs (cells + 1) (slots + cap) → T'.heap = h' → Ext h h' → Arv Z h' b k (newarray.typeOf aty) n ([] ++ List.replicate u (defaultValue (newarray.typeOf aty))) (defaultValue (newarray.typeOf aty)) → Exa Z h' b ad → Go p e below P T' (mkF m (pc0 + 2) Ls (.ref b :: st))) : Go p e below P T (mkF m pc Ls (.int n :: st)) := by
  subst hpc
  obtain ⟨T', h', cA, X', e', E, A, A', q⟩ := newPE X hx hZ w eT (g := mkF m pc Ls (.int n :: st)) rfl hd rfl hn (cap := cap) hcap hb hc hl had
  exact Go.of q (K T' h' _ cA rfl X' e' E ((Arv.new A hn).pad (pad_rep [] _ u)) A')
theorem Go.newR (X : Stand p l e R s m args below meth c T locs cells slots) (hx : p.tables.exec = Jvm.exec) (hZ : Z.Warmed39 s.vm) {own : String} {index : Nat} (hown : s.vm.findClass own = some m.cls) {C : String} {n : Int32} (w1 : (Cond.classLink own index C).before a0 Z = true) (w2 : (Cond.arrayOver (.object C)).before a0 Z = true) (eT : T.heap = h) (u : Nat) (hn : ¬ n < 0) (cap : Nat) (hcap : n.toNatClampNeg ≤ cap) (hb : cap * 8 ≤ 536870912) (hc : cells + 1 ≤ R.cells) (hl : slots + cap ≤ R.slots) (hd : decode c.code pc0 = .ok (.anewarray index, 3)) (hpc : pc = pc0)
    (K : ∀ T' h' b k, b = h.size → Stand p l e R s m args below meth c T' locs (cells + 1) (slots + cap) → T'.heap = h' → Ext h h' → Arv Z h' b k (.object C) n ([] ++ List.replicate u (.null)) (.null) → Ovr Z k C → Go p e below P T' (mkF m (pc0 + 3) Ls (.ref b :: st))) : Go p e below P T (mkF m pc Ls (.int n :: st)) := by
  subst hpc
  obtain ⟨T', h', cA, X', e', E, A, O, q⟩ := Jvm.RoadKit.newR X hx hZ hown w1 w2 eT (g := mkF m pc Ls (.int n :: st)) rfl hd rfl hn (cap := cap) hcap hb hc hl
  exact Go.of q (K T' h' _ cA rfl X' e' E ((Arv.new A hn).pad (pad_rep [] _ u)) O)
theorem Go.newRA (X : Stand p l e R s m args below meth c T locs cells slots) (hx : p.tables.exec = Jvm.exec) (hZ : Z.Warmed39 s.vm) {own : String} {index : Nat} (hown : s.vm.findClass own = some m.cls) {C : String} {ty : FieldType} {n : Int32} (hC : (FieldType.array ty).toString = C) (w1 : (Cond.classLink own index C).before a0 Z = true) (w2 : (Cond.arrayOver (.array ty)).before a0 Z = true) (eT : T.heap = h) (u : Nat) (hn : ¬ n < 0) (cap : Nat) (hcap : n.toNatClampNeg ≤ cap) (hb : cap * 8 ≤ 536870912) (hc : cells + 1 ≤ R.cells) (hl : slots + cap ≤ R.slots) (hd : decode c.code pc0 = .ok (.anewarray index, 3)) (hpc : pc = pc0)
    (K : ∀ T' h' b k, b = h.size → Stand p l e R s m args below meth c T' locs (cells + 1) (slots + cap) → T'.heap = h' → Ext h h' → Arv Z h' b k (.array ty) n ([] ++ List.replicate u (.null)) (.null) → OvrA Z k ty C → Go p e below P T' (mkF m (pc0 + 3) Ls (.ref b :: st))) : Go p e below P T (mkF m pc Ls (.int n :: st)) := by
  subst hpc
  obtain ⟨T', h', cA, X', e', E, A, -, O, q⟩ := Jvm.RoadKit.newRA X hx hZ hown hC w1 w2 eT (g := mkF m pc Ls (.int n :: st)) rfl hd rfl hn (cap := cap) hcap hb hc hl rfl
  exact Go.of q (K T' h' _ cA rfl X' e' E ((Arv.new A hn).pad (pad_rep [] _ u)) O)
end OwnSteps
theorem own_i32 {k n : Int32} {v : Int} (h : k.toInt = v) (hv : n.toInt = v) : k = n := Int32.toInt_inj.mp (h.trans hv.symm)
theorem own_rem3 (x : Int32) : (x &&& (2147483647 : Int32)) % (3 : Int32) = 0 ∨ (x &&& (2147483647 : Int32)) % (3 : Int32) = 1 ∨ (x &&& (2147483647 : Int32)) % (3 : Int32) = 2 := by
  have e1 : (x &&& (2147483647 : Int32)).toInt = x.toInt % 2 ^ 31 := Jvm.Kit.i32_mask x 2147483647 (k := 31) (by decide) (by decide)
  have e2 := Jvm.Kit.i32_rem_nonneg (x := x &&& (2147483647 : Int32)) (y := 3) (by omega)
  rw [show (3 : Int32).toInt = 3 from by decide] at e2
  generalize (x &&& (2147483647 : Int32)) % (3 : Int32) = k at *
  have e3 : k.toInt = 0 ∨ k.toInt = 1 ∨ k.toInt = 2 := by omega
  rcases e3 with h | h | h
  · exact Or.inl (own_i32 h (by decide))
  · exact Or.inr (Or.inl (own_i32 h (by decide)))
  · exact Or.inr (Or.inr (own_i32 h (by decide)))
theorem pd_0 : parseMethodDescriptor "()V" = some ⟨[], none⟩ := by decide +kernel
theorem pd_1 : parseMethodDescriptor "(J)V" = some ⟨[.long], none⟩ := by decide +kernel
theorem pd_2 : parseMethodDescriptor "()J" = some ⟨[], some .long⟩ := by decide +kernel
theorem pd_3 : parseMethodDescriptor "(J)J" = some ⟨[.long], some .long⟩ := by decide +kernel
theorem pd_4 : parseMethodDescriptor "(JJ)V" = some ⟨[.long, .long], none⟩ := by decide +kernel
theorem pn_0 : plainName "com/example/diktyo/diktyo/analysis/LongPagesGetPinLaw" = true := by first | (simp [plainName, overriddenIn]; done) | decide +kernel
theorem ef_0 (m : MethodId) (x0 : Int64) (x1 : Int64) (x2 : Int64) (x3 : Int64) (x4 : Int32) : entryFrame m #[(.long x0), (.long x1), (.long x2), (.long x3), (.int x4)] maxLocals = mkF m 0 #[.val (.long x0), .second, .val (.long x1), .second, .val (.long x2), .second, .val (.long x3), .second, .val (.int x4), .unset, .unset, .unset, .unset, .unset, .unset, .unset, .unset, .unset] [] := by first | (simp [entryFrame, mkF, argsToLocals, Value.category, maxLocals]; done) | rfl
theorem d1_0 : decode prog_14_method_1_code 0 = .ok (.aload_n 0, 1) := by decide +kernel
theorem d1_1 : decode prog_14_method_1_code 1 = .ok (.invokespecial 3, 3) := by decide +kernel
theorem d1_4 : decode prog_14_method_1_code 4 = .ok (.aload_n 0, 1) := by decide +kernel
theorem d1_5 : decode prog_14_method_1_code 5 = .ok (.iconst 1, 1) := by decide +kernel
theorem d1_6 : decode prog_14_method_1_code 6 = .ok (.anewarray 9, 3) := by decide +kernel
theorem d1_9 : decode prog_14_method_1_code 9 = .ok (.putfield 11, 3) := by decide +kernel
theorem d1_12 : decode prog_14_method_1_code 12 = .ok (.return_, 1) := by decide +kernel
theorem pn_1 : plainName "com/example/diktyo/diktyo/analysis/LongPages" = true := by first | (simp [plainName, overriddenIn]; done) | decide +kernel
theorem ef_1 (m : MethodId) (x0 : Addr) : entryFrame m #[(.ref x0)] 1 = mkF m 0 #[.val (.ref x0)] [] := by first | (simp [entryFrame, mkF, argsToLocals, Value.category]; done) | rfl
set_option maxRecDepth 65536 in
set_option maxHeartbeats 40000000 in
theorem lpI (l : Launch) (Z : State) (a0 : Array Value) (hw : ∀ d ∈ tables_1, d.before a0 Z = true) (a : Addr) (h0 : Heap) (O0 : Old Z Z.heap.size h0) (Ea : Exa Z h0 a "com/example/diktyo/diktyo/analysis/LongPages") (ga : Z.heap.size ≤ a) (Fp : Fld Z h0 a "com/example/diktyo/diktyo/analysis/LongPages" "pages" "[[J" .null) (Fs : Fld Z h0 a "com/example/diktyo/diktyo/analysis/LongPages" "size" "J" (.long (0 : Int64))) : Ctr l Z (⟨"com/example/diktyo/diktyo/analysis/LongPages", "<init>", "()V"⟩ : MethodName) prog_14_method_1_code 1 none ({ frames := 1, cells := 1, slots := 1, locals := 12 } : Room) #[(.ref a)] h0 (fun v h L => v = none ∧ Fr Z.heap.size L ∧ Keep h0 h [a] ∧ Exa Z h a "com/example/diktyo/diktyo/analysis/LongPages" ∧ ∃ (b : Addr) (kb : ClassId), h0.size ≤ b ∧ Fld Z h a "com/example/diktyo/diktyo/analysis/LongPages" "pages" "[[J" (.ref b) ∧ Fld Z h a "com/example/diktyo/diktyo/analysis/LongPages" "size" "J" (.long (0 : Int64)) ∧ Arv Z h b kb (.array .long) (1 : Int32) [.null] .null ∧ OvrA Z kb .long "[J") := by
  refine Ctr.of (plainFor_of_name pn_1) ?_
  have wd : ∀ {d : Jvm.Cond} (i : Nat), tables_1[i]? = some d → d.before a0 Z = true := fun i q => hw _ (List.mem_of_getElem? q)
  intro p e s m below meth c s₁ hx hby hml hown hnm hret hlk hZ X0 e0
  refine Go.cast (ef_1 m a) ?_
  show Go p e below _ s₁ (mkF m 0 #[.val (.ref a)] [])
  refine Go.aloadN X0 hx (hb hby d1_0) rfl rfl rfl ?_
  refine Go.initO X0 hx hZ hown (wd 7 rfl) (wd 8 rfl) (wd 9 rfl) e0 (by rw [hml]; rfl) (hb hby d1_1) rfl (Nat.le_of_ble_eq_true rfl) (Nat.le_of_ble_eq_true rfl) ?_
  intro T1 X1 e1
  refine Go.aloadN X1 hx (hb hby d1_4) rfl rfl rfl ?_
  refine Go.iconst X1 hx (hb hby d1_5) rfl (1 : Int32) rfl ?_
  refine Go.newRA X1 hx hZ (ty := .long) hown (by decide) (wd 10 rfl) (wd 11 rfl) e1 1 (by decide) 1 (by decide) (by decide) (Nat.le_of_ble_eq_true rfl) (Nat.le_of_ble_eq_true rfl) (hb hby d1_6) rfl ?_
  intro T2 h2 b2 k2 g2 X2 e2 E2 V2' Ov2
  have V2 : Arv Z h2 b2 k2 (.array .long) (1 : Int32) [.null] .null := V2'
  have q2 : Z.heap.size ≤ b2 := Nat.le_trans O0.2.1 (Nat.le_of_eq g2.symm)
  have z2 : h0.size ≤ b2 := Nat.le_trans (Keep.refl h0 [a]).1 (Nat.le_of_eq g2.symm)
  have ne_a_b2 : a ≠ b2 := Nat.ne_of_lt (Nat.lt_of_lt_of_le Ea.lt (Nat.le_of_eq g2.symm))
  have K3 := (Keep.refl h0 [a]).ext E2
  have O4 := O0.ext E2
  have E5 := Ea.ext E2
  have F6 := Fp.ext E2
  have F7 := Fs.ext E2
  refine Go.putF X2 hx hZ hown (host := "") (Or.inl (wd 12 rfl)) Via.refl e2 F6 E5 (Or.inl (wd 13 rfl)) (wd 2 rfl) (ty := (.array (.array .long))) (by decide) rfl rfl (hb hby d1_9) rfl ?_
  intro T8 h8 X8 e8 W8 F9
  have K10 := K3.wr W8 (Or.inl (List.mem_of_getElem? (i := 0) rfl))
  have O11 := O4.wr W8 ga
  have N12 := Fr.snoc X8 (Fr.nil _) ga
  have E13 := E5.wr W8
  have F14 := F7.other W8 (Or.inr (slot_ne (Or.inl (wd 20 rfl)) (Or.inl (wd 13 rfl)) (by decide) (t := .long) (t' := (.array (.array .long))) (by decide) (by decide)))
  have V15 := V2.other W8 (Ne.symm ne_a_b2)
  exact Go.retV X8 hx hret hlk (hb hby d1_12) rfl (by rw [e8]; exact ⟨rfl, N12, K10, E13, ⟨b2, k2, z2, F9, F14, V15, Ov2⟩⟩) (Nat.le_of_ble_eq_true rfl) (Nat.le_of_ble_eq_true rfl)
theorem d3_0 : decode prog_14_method_3_code 0 = .ok (.aload_n 0, 1) := by decide +kernel
theorem d3_1 : decode prog_14_method_3_code 1 = .ok (.getfield 15, 3) := by decide +kernel
theorem d3_4 : decode prog_14_method_3_code 4 = .ok (.bipush 16, 2) := by decide +kernel
theorem d3_6 : decode prog_14_method_3_code 6 = .ok (.lushr, 1) := by decide +kernel
theorem d3_7 : decode prog_14_method_3_code 7 = .ok (.l2i, 1) := by decide +kernel
theorem d3_8 : decode prog_14_method_3_code 8 = .ok (.istore_n 3, 1) := by decide +kernel
theorem d3_9 : decode prog_14_method_3_code 9 = .ok (.iload_n 3, 1) := by decide +kernel
theorem d3_10 : decode prog_14_method_3_code 10 = .ok (.aload_n 0, 1) := by decide +kernel
theorem d3_11 : decode prog_14_method_3_code 11 = .ok (.getfield 11, 3) := by decide +kernel
theorem d3_14 : decode prog_14_method_3_code 14 = .ok (.arraylength, 1) := by decide +kernel
theorem d3_15 : decode prog_14_method_3_code 15 = .ok (.if_icmp .ne 20, 3) := by decide +kernel
theorem d3_18 : decode prog_14_method_3_code 18 = .ok (.aload_n 0, 1) := by decide +kernel
theorem d3_19 : decode prog_14_method_3_code 19 = .ok (.aload_n 0, 1) := by decide +kernel
theorem d3_20 : decode prog_14_method_3_code 20 = .ok (.getfield 11, 3) := by decide +kernel
theorem d3_23 : decode prog_14_method_3_code 23 = .ok (.iconst 2, 1) := by decide +kernel
theorem d3_24 : decode prog_14_method_3_code 24 = .ok (.iload_n 3, 1) := by decide +kernel
theorem d3_25 : decode prog_14_method_3_code 25 = .ok (.imul, 1) := by decide +kernel
theorem d3_26 : decode prog_14_method_3_code 26 = .ok (.invokestatic 19, 3) := by decide +kernel
theorem d3_29 : decode prog_14_method_3_code 29 = .ok (.checkcast 25, 3) := by decide +kernel
theorem d3_32 : decode prog_14_method_3_code 32 = .ok (.putfield 11, 3) := by decide +kernel
theorem d3_35 : decode prog_14_method_3_code 35 = .ok (.aload_n 0, 1) := by decide +kernel
theorem d3_36 : decode prog_14_method_3_code 36 = .ok (.getfield 11, 3) := by decide +kernel
theorem d3_39 : decode prog_14_method_3_code 39 = .ok (.iload_n 3, 1) := by decide +kernel
theorem d3_40 : decode prog_14_method_3_code 40 = .ok (.aaload, 1) := by decide +kernel
theorem d3_41 : decode prog_14_method_3_code 41 = .ok (.ifnonnull 13, 3) := by decide +kernel
theorem d3_44 : decode prog_14_method_3_code 44 = .ok (.aload_n 0, 1) := by decide +kernel
theorem d3_45 : decode prog_14_method_3_code 45 = .ok (.getfield 11, 3) := by decide +kernel
theorem d3_48 : decode prog_14_method_3_code 48 = .ok (.iload_n 3, 1) := by decide +kernel
theorem d3_49 : decode prog_14_method_3_code 49 = .ok (.ldc 26, 2) := by decide +kernel
theorem d3_51 : decode prog_14_method_3_code 51 = .ok (.newarray .long, 2) := by decide +kernel
theorem d3_53 : decode prog_14_method_3_code 53 = .ok (.aastore, 1) := by decide +kernel
theorem d3_54 : decode prog_14_method_3_code 54 = .ok (.aload_n 0, 1) := by decide +kernel
theorem d3_55 : decode prog_14_method_3_code 55 = .ok (.getfield 11, 3) := by decide +kernel
theorem d3_58 : decode prog_14_method_3_code 58 = .ok (.iload_n 3, 1) := by decide +kernel
theorem d3_59 : decode prog_14_method_3_code 59 = .ok (.aaload, 1) := by decide +kernel
theorem d3_60 : decode prog_14_method_3_code 60 = .ok (.aload_n 0, 1) := by decide +kernel
theorem d3_61 : decode prog_14_method_3_code 61 = .ok (.getfield 15, 3) := by decide +kernel
theorem d3_64 : decode prog_14_method_3_code 64 = .ok (.l2i, 1) := by decide +kernel
theorem d3_65 : decode prog_14_method_3_code 65 = .ok (.ldc 27, 2) := by decide +kernel
theorem d3_67 : decode prog_14_method_3_code 67 = .ok (.iand, 1) := by decide +kernel
theorem d3_68 : decode prog_14_method_3_code 68 = .ok (.lload_n 1, 1) := by decide +kernel
theorem d3_69 : decode prog_14_method_3_code 69 = .ok (.lastore, 1) := by decide +kernel
theorem d3_70 : decode prog_14_method_3_code 70 = .ok (.aload_n 0, 1) := by decide +kernel
theorem d3_71 : decode prog_14_method_3_code 71 = .ok (.dup, 1) := by decide +kernel
theorem d3_72 : decode prog_14_method_3_code 72 = .ok (.getfield 15, 3) := by decide +kernel
theorem d3_75 : decode prog_14_method_3_code 75 = .ok (.lconst 1, 1) := by decide +kernel
theorem d3_76 : decode prog_14_method_3_code 76 = .ok (.ladd, 1) := by decide +kernel
theorem d3_77 : decode prog_14_method_3_code 77 = .ok (.putfield 15, 3) := by decide +kernel
theorem d3_80 : decode prog_14_method_3_code 80 = .ok (.return_, 1) := by decide +kernel
theorem ef_3 (m : MethodId) (x0 : Addr) (x1 : Int64) : entryFrame m #[(.ref x0), (.long x1)] 4 = mkF m 0 #[.val (.ref x0), .val (.long x1), .second, .unset] [] := by first | (simp [entryFrame, mkF, argsToLocals, Value.category]; done) | rfl
set_option maxRecDepth 65536 in
set_option maxHeartbeats 40000000 in
theorem lpA0 (l : Launch) (Z : State) (a0 : Array Value) (hw : ∀ d ∈ tables_1, d.before a0 Z = true) (a b : Addr) (kb : ClassId) (v : Int64) (h0 : Heap) (O0 : Old Z Z.heap.size h0) (Ea : Exa Z h0 a "com/example/diktyo/diktyo/analysis/LongPages") (ga : Z.heap.size ≤ a) (gb : Z.heap.size ≤ b) (nab : a ≠ b) (Fp : Fld Z h0 a "com/example/diktyo/diktyo/analysis/LongPages" "pages" "[[J" (.ref b)) (Fs : Fld Z h0 a "com/example/diktyo/diktyo/analysis/LongPages" "size" "J" (.long (0 : Int64))) (Vb : Arv Z h0 b kb (.array .long) (1 : Int32) [.null] .null) (Ov : OvrA Z kb .long "[J") : Ctr l Z (⟨"com/example/diktyo/diktyo/analysis/LongPages", "add", "(J)V"⟩ : MethodName) prog_14_method_3_code 4 none ({ frames := 0, cells := 1, slots := 65536, locals := 0 } : Room) #[(.ref a), (.long v)] h0 (fun v' h L => v' = none ∧ Fr Z.heap.size L ∧ Keep h0 h [a, b] ∧ Exa Z h a "com/example/diktyo/diktyo/analysis/LongPages" ∧ ∃ (g : Addr) (kp : ClassId), h0.size ≤ g ∧ Fld Z h a "com/example/diktyo/diktyo/analysis/LongPages" "pages" "[[J" (.ref b) ∧ Fld Z h a "com/example/diktyo/diktyo/analysis/LongPages" "size" "J" (.long (1 : Int64)) ∧ Arv Z h b kb (.array .long) (1 : Int32) [(.ref g)] .null ∧ Arv Z h g kp .long (65536 : Int32) [(.long v), (.long (0 : Int64)), (.long (0 : Int64)), (.long (0 : Int64)), (.long (0 : Int64)), (.long (0 : Int64))] (.long (0 : Int64))) := by
  refine Ctr.of (plainFor_of_name pn_1) ?_
  have wd : ∀ {d : Jvm.Cond} (i : Nat), tables_1[i]? = some d → d.before a0 Z = true := fun i q => hw _ (List.mem_of_getElem? q)
  intro p e s m below meth c s₁ hx hby hml hown hnm hret hlk hZ X0 e0
  refine Go.cast (ef_3 m a v) ?_
  show Go p e below _ s₁ (mkF m 0 #[.val (.ref a), .val (.long v), .second, .unset] [])
  refine Go.aloadN X0 hx (hb hby d3_0) rfl rfl rfl ?_
  refine Go.getF X0 hx hZ hown (host := "") (Or.inl (wd 19 rfl)) Via.refl e0 Fs (hb hby d3_1) rfl ?_
  intro T1 X1 e1
  refine Go.bipush X1 hx (hb hby d3_4) rfl (16 : Int32) rfl ?_
  refine Go.lushr X1 hx (hb hby d3_6) rfl ?_
  show Go p e below _ T1 (mkF m 7 #[.val (.ref a), .val (.long v), .second, .unset] [(.long ((((0 : Int64)).toUInt64 >>> ((16 : Int32) &&& 0x3f).toInt64.toUInt64).toInt64))])
  rw [show ((((0 : Int64)).toUInt64 >>> ((16 : Int32) &&& 0x3f).toInt64.toUInt64).toInt64) = (0 : Int64) from by decide]
  refine Go.l2i X1 hx (hb hby d3_7) rfl ?_
  show Go p e below _ T1 (mkF m 8 #[.val (.ref a), .val (.long v), .second, .unset] [(.int (((0 : Int64)).toInt32))])
  rw [show (((0 : Int64)).toInt32) = (0 : Int32) from by decide]
  refine Go.istoreN X1 hx (hb hby d3_8) rfl  #[.val (.ref a), .val (.long v), .second, .val (.int (0 : Int32))] rfl ?_
  refine Go.iloadN X1 hx (hb hby d3_9) rfl rfl  ?_
  refine Go.aloadN X1 hx (hb hby d3_10) rfl rfl rfl ?_
  refine Go.getF X1 hx hZ hown (host := "") (Or.inl (wd 12 rfl)) Via.refl e1 Fp (hb hby d3_11) rfl ?_
  intro T2 X2 e2
  refine Go.alen X2 hx hZ Vb e2 (hb hby d3_14) rfl ?_
  refine Go.icmpYes X2 hx (hb hby d3_15) rfl 35 (feq (by decide : ¬ ((0 : Int32) = (1 : Int32)))).2 (by decide) (by decide) ?_
  refine Go.aloadN X2 hx (hb hby d3_35) rfl rfl rfl ?_
  refine Go.getF X2 hx hZ hown (host := "") (Or.inl (wd 12 rfl)) Via.refl e2 Fp (hb hby d3_36) rfl ?_
  intro T3 X3 e3
  refine Go.iloadN X3 hx (hb hby d3_39) rfl rfl  ?_
  refine Go.aaload X3 hx hZ .null Vb e3 rfl ⟨by decide, by decide⟩ rfl (hb hby d3_40) rfl ?_
  refine Go.ifnonnullNo X3 hx (hb hby d3_41) rfl ?_
  refine Go.aloadN X3 hx (hb hby d3_44) rfl rfl rfl ?_
  refine Go.getF X3 hx hZ hown (host := "") (Or.inl (wd 12 rfl)) Via.refl e3 Fp (hb hby d3_45) rfl ?_
  intro T4 X4 e4
  refine Go.iloadN X4 hx (hb hby d3_48) rfl rfl  ?_
  refine Go.ldc X4 hx hZ hown (wd 21 rfl) (hb hby d3_49) rfl ?_
  refine Go.newP X4 hx hZ (wd 22 rfl) e4 6 (by decide) 65536 (by decide) (by decide) (Nat.le_of_ble_eq_true rfl) (Nat.le_of_ble_eq_true rfl) "[J" (by decide) (hb hby d3_51) rfl ?_
  intro T5 h5 b5 k5 g5 X5 e5 E5 V5' A5
  have V5 : Arv Z h5 b5 k5 .long (65536 : Int32) [(.long (0 : Int64)), (.long (0 : Int64)), (.long (0 : Int64)), (.long (0 : Int64)), (.long (0 : Int64)), (.long (0 : Int64))] (.long (0 : Int64)) := V5'
  have q5 : Z.heap.size ≤ b5 := Nat.le_trans O0.2.1 (Nat.le_of_eq g5.symm)
  have z5 : h0.size ≤ b5 := Nat.le_trans (Keep.refl h0 [a, b]).1 (Nat.le_of_eq g5.symm)
  have ne_a_b5 : a ≠ b5 := Nat.ne_of_lt (Nat.lt_of_lt_of_le Ea.lt (Nat.le_of_eq g5.symm))
  have ne_b_b5 : b ≠ b5 := Nat.ne_of_lt (Nat.lt_of_lt_of_le Vb.lt (Nat.le_of_eq g5.symm))
  have K6 := (Keep.refl h0 [a, b]).ext E5
  have O7 := O0.ext E5
  have E8 := Ea.ext E5
  have F9 := Fp.ext E5
  have F10 := Fs.ext E5
  have V11 := Vb.ext E5
  refine Go.aastore X5 hx hZ V11 e5 ⟨by decide, by decide⟩ 0 (by decide) (Nat.le_of_ble_eq_true rfl) rfl rfl (fun _ q1 q2 => Sto.ofVA q1 q2 Ov (Ins.self A5)) (hb hby d3_53) rfl ?_
  intro T12 h12 X12 e12 W12 V12'
  have V12 : Arv Z h12 b kb (.array .long) (1 : Int32) [(.ref b5)] .null := V12'
  have K13 := K6.wr W12 (Or.inl (List.mem_of_getElem? (i := 1) rfl))
  have O14 := O7.wr W12 gb
  have N15 := Fr.snoc X12 (Fr.nil _) gb
  have E16 := E8.wr W12
  have F17 := F9.other W12 (Or.inl nab)
  have F18 := F10.other W12 (Or.inl nab)
  have V19 := V5.other W12 (Ne.symm ne_b_b5)
  have E20 := A5.wr W12
  refine Go.aloadN X12 hx (hb hby d3_54) rfl rfl rfl ?_
  refine Go.getF X12 hx hZ hown (host := "") (Or.inl (wd 12 rfl)) Via.refl e12 F17 (hb hby d3_55) rfl ?_
  intro T21 X21 e21
  refine Go.iloadN X21 hx (hb hby d3_58) rfl rfl  ?_
  refine Go.aaload X21 hx hZ (.ref b5) V12 e21 rfl ⟨by decide, by decide⟩ rfl (hb hby d3_59) rfl ?_
  refine Go.aloadN X21 hx (hb hby d3_60) rfl rfl rfl ?_
  refine Go.getF X21 hx hZ hown (host := "") (Or.inl (wd 19 rfl)) Via.refl e21 F18 (hb hby d3_61) rfl ?_
  intro T22 X22 e22
  refine Go.l2i X22 hx (hb hby d3_64) rfl ?_
  show Go p e below _ T22 (mkF m 65 #[.val (.ref a), .val (.long v), .second, .val (.int (0 : Int32))] [(.int (((0 : Int64)).toInt32)), (.ref b5)])
  rw [show (((0 : Int64)).toInt32) = (0 : Int32) from by decide]
  refine Go.ldc X22 hx hZ hown (wd 24 rfl) (hb hby d3_65) rfl ?_
  refine Go.iand X22 hx (hb hby d3_67) rfl ?_
  show Go p e below _ T22 (mkF m 68 #[.val (.ref a), .val (.long v), .second, .val (.int (0 : Int32))] [(.int ((0 : Int32) &&& (65535 : Int32))), (.ref b5)])
  rw [show ((0 : Int32) &&& (65535 : Int32)) = (0 : Int32) from by decide]
  refine Go.lloadN X22 hx (hb hby d3_68) rfl rfl  ?_
  refine Go.lastore X22 hx hZ V19 e22 ⟨by decide, by decide⟩ 0 (by decide) (Nat.le_of_ble_eq_true rfl)  (hb hby d3_69) rfl ?_
  intro T23 h23 X23 e23 W23 V23'
  have V23 : Arv Z h23 b5 k5 .long (65536 : Int32) [(.long v), (.long (0 : Int64)), (.long (0 : Int64)), (.long (0 : Int64)), (.long (0 : Int64)), (.long (0 : Int64))] (.long (0 : Int64)) := V23'
  have K24 := K13.wr W23 (Or.inr z5)
  have O25 := O14.wr W23 q5
  have N26 := Fr.snoc X23 N15 q5
  have E27 := E16.wr W23
  have F28 := F17.other W23 (Or.inl ne_a_b5)
  have F29 := F18.other W23 (Or.inl ne_a_b5)
  have V30 := V12.other W23 ne_b_b5
  have E31 := E20.wr W23
  refine Go.aloadN X23 hx (hb hby d3_70) rfl rfl rfl ?_
  refine Go.dup X23 hx (hb hby d3_71) rfl rfl ?_
  refine Go.getF X23 hx hZ hown (host := "") (Or.inl (wd 19 rfl)) Via.refl e23 F29 (hb hby d3_72) rfl ?_
  intro T32 X32 e32
  refine Go.lconst X32 hx (hb hby d3_75) rfl (1 : Int64) rfl ?_
  refine Go.ladd X32 hx (hb hby d3_76) rfl ?_
  show Go p e below _ T32 (mkF m 77 #[.val (.ref a), .val (.long v), .second, .val (.int (0 : Int32))] [(.long ((0 : Int64) + (1 : Int64))), (.ref a)])
  rw [show ((0 : Int64) + (1 : Int64)) = (1 : Int64) from by decide]
  refine Go.putF X32 hx hZ hown (host := "") (Or.inl (wd 19 rfl)) Via.refl e32 F29 E27 (Or.inl (wd 20 rfl)) (wd 2 rfl) (ty := .long) (by decide) rfl rfl (hb hby d3_77) rfl ?_
  intro T33 h33 X33 e33 W33 F34
  have K35 := K24.wr W33 (Or.inl (List.mem_of_getElem? (i := 0) rfl))
  have O36 := O25.wr W33 ga
  have N37 := Fr.snoc X33 N26 ga
  have E38 := E27.wr W33
  have F39 := F28.other W33 (Or.inr (slot_ne (Or.inl (wd 13 rfl)) (Or.inl (wd 20 rfl)) (by decide) (t := (.array (.array .long))) (t' := .long) (by decide) (by decide)))
  have V40 := V30.other W33 (Ne.symm nab)
  have V41 := V23.other W33 (Ne.symm ne_a_b5)
  have E42 := E31.wr W33
  exact Go.retV X33 hx hret hlk (hb hby d3_80) rfl (by rw [e33]; exact ⟨rfl, N37, K35, E38, ⟨b5, k5, z5, F39, F34, V40, V41⟩⟩) (Nat.le_of_ble_eq_true rfl) (Nat.le_of_ble_eq_true rfl)
set_option maxRecDepth 65536 in
set_option maxHeartbeats 40000000 in
theorem lpA1 (l : Launch) (Z : State) (a0 : Array Value) (hw : ∀ d ∈ tables_1, d.before a0 Z = true) (a b g : Addr) (kb kp : ClassId) (v v0 v1 v2 v3 v4 v5 : Int64) (h0 : Heap) (O0 : Old Z Z.heap.size h0) (Ea : Exa Z h0 a "com/example/diktyo/diktyo/analysis/LongPages") (ga : Z.heap.size ≤ a) (gg : Z.heap.size ≤ g) (nab : a ≠ b) (nag : a ≠ g) (nbg : b ≠ g) (Fp : Fld Z h0 a "com/example/diktyo/diktyo/analysis/LongPages" "pages" "[[J" (.ref b)) (Fs : Fld Z h0 a "com/example/diktyo/diktyo/analysis/LongPages" "size" "J" (.long (1 : Int64))) (Vb : Arv Z h0 b kb (.array .long) (1 : Int32) [(.ref g)] .null) (Vg : Arv Z h0 g kp .long (65536 : Int32) [(.long v0), (.long v1), (.long v2), (.long v3), (.long v4), (.long v5)] (.long (0 : Int64))) : Ctr l Z (⟨"com/example/diktyo/diktyo/analysis/LongPages", "add", "(J)V"⟩ : MethodName) prog_14_method_3_code 4 none ({ frames := 0, cells := 0, slots := 0, locals := 0 } : Room) #[(.ref a), (.long v)] h0 (fun v' h L => v' = none ∧ Fr Z.heap.size L ∧ Keep h0 h [a, g] ∧ Exa Z h a "com/example/diktyo/diktyo/analysis/LongPages" ∧ Fld Z h a "com/example/diktyo/diktyo/analysis/LongPages" "pages" "[[J" (.ref b) ∧ Fld Z h a "com/example/diktyo/diktyo/analysis/LongPages" "size" "J" (.long (2 : Int64)) ∧ Arv Z h b kb (.array .long) (1 : Int32) [(.ref g)] .null ∧ Arv Z h g kp .long (65536 : Int32) [(.long v0), (.long v), (.long v2), (.long v3), (.long v4), (.long v5)] (.long (0 : Int64))) := by
  refine Ctr.of (plainFor_of_name pn_1) ?_
  have wd : ∀ {d : Jvm.Cond} (i : Nat), tables_1[i]? = some d → d.before a0 Z = true := fun i q => hw _ (List.mem_of_getElem? q)
  intro p e s m below meth c s₁ hx hby hml hown hnm hret hlk hZ X0 e0
  refine Go.cast (ef_3 m a v) ?_
  show Go p e below _ s₁ (mkF m 0 #[.val (.ref a), .val (.long v), .second, .unset] [])
  refine Go.aloadN X0 hx (hb hby d3_0) rfl rfl rfl ?_
  refine Go.getF X0 hx hZ hown (host := "") (Or.inl (wd 19 rfl)) Via.refl e0 Fs (hb hby d3_1) rfl ?_
  intro T1 X1 e1
  refine Go.bipush X1 hx (hb hby d3_4) rfl (16 : Int32) rfl ?_
  refine Go.lushr X1 hx (hb hby d3_6) rfl ?_
  show Go p e below _ T1 (mkF m 7 #[.val (.ref a), .val (.long v), .second, .unset] [(.long ((((1 : Int64)).toUInt64 >>> ((16 : Int32) &&& 0x3f).toInt64.toUInt64).toInt64))])
  rw [show ((((1 : Int64)).toUInt64 >>> ((16 : Int32) &&& 0x3f).toInt64.toUInt64).toInt64) = (0 : Int64) from by decide]
  refine Go.l2i X1 hx (hb hby d3_7) rfl ?_
  show Go p e below _ T1 (mkF m 8 #[.val (.ref a), .val (.long v), .second, .unset] [(.int (((0 : Int64)).toInt32))])
  rw [show (((0 : Int64)).toInt32) = (0 : Int32) from by decide]
  refine Go.istoreN X1 hx (hb hby d3_8) rfl  #[.val (.ref a), .val (.long v), .second, .val (.int (0 : Int32))] rfl ?_
  refine Go.iloadN X1 hx (hb hby d3_9) rfl rfl  ?_
  refine Go.aloadN X1 hx (hb hby d3_10) rfl rfl rfl ?_
  refine Go.getF X1 hx hZ hown (host := "") (Or.inl (wd 12 rfl)) Via.refl e1 Fp (hb hby d3_11) rfl ?_
  intro T2 X2 e2
  refine Go.alen X2 hx hZ Vb e2 (hb hby d3_14) rfl ?_
  refine Go.icmpYes X2 hx (hb hby d3_15) rfl 35 (feq (by decide : ¬ ((0 : Int32) = (1 : Int32)))).2 (by decide) (by decide) ?_
  refine Go.aloadN X2 hx (hb hby d3_35) rfl rfl rfl ?_
  refine Go.getF X2 hx hZ hown (host := "") (Or.inl (wd 12 rfl)) Via.refl e2 Fp (hb hby d3_36) rfl ?_
  intro T3 X3 e3
  refine Go.iloadN X3 hx (hb hby d3_39) rfl rfl  ?_
  refine Go.aaload X3 hx hZ (.ref g) Vb e3 rfl ⟨by decide, by decide⟩ rfl (hb hby d3_40) rfl ?_
  refine Go.ifnonnullYes X3 hx (hb hby d3_41) rfl 54 (by decide) (by decide) ?_
  refine Go.aloadN X3 hx (hb hby d3_54) rfl rfl rfl ?_
  refine Go.getF X3 hx hZ hown (host := "") (Or.inl (wd 12 rfl)) Via.refl e3 Fp (hb hby d3_55) rfl ?_
  intro T4 X4 e4
  refine Go.iloadN X4 hx (hb hby d3_58) rfl rfl  ?_
  refine Go.aaload X4 hx hZ (.ref g) Vb e4 rfl ⟨by decide, by decide⟩ rfl (hb hby d3_59) rfl ?_
  refine Go.aloadN X4 hx (hb hby d3_60) rfl rfl rfl ?_
  refine Go.getF X4 hx hZ hown (host := "") (Or.inl (wd 19 rfl)) Via.refl e4 Fs (hb hby d3_61) rfl ?_
  intro T5 X5 e5
  refine Go.l2i X5 hx (hb hby d3_64) rfl ?_
  show Go p e below _ T5 (mkF m 65 #[.val (.ref a), .val (.long v), .second, .val (.int (0 : Int32))] [(.int (((1 : Int64)).toInt32)), (.ref g)])
  rw [show (((1 : Int64)).toInt32) = (1 : Int32) from by decide]
  refine Go.ldc X5 hx hZ hown (wd 24 rfl) (hb hby d3_65) rfl ?_
  refine Go.iand X5 hx (hb hby d3_67) rfl ?_
  show Go p e below _ T5 (mkF m 68 #[.val (.ref a), .val (.long v), .second, .val (.int (0 : Int32))] [(.int ((1 : Int32) &&& (65535 : Int32))), (.ref g)])
  rw [show ((1 : Int32) &&& (65535 : Int32)) = (1 : Int32) from by decide]
  refine Go.lloadN X5 hx (hb hby d3_68) rfl rfl  ?_
  refine Go.lastore X5 hx hZ Vg e5 ⟨by decide, by decide⟩ 1 (by decide) (Nat.le_of_ble_eq_true rfl)  (hb hby d3_69) rfl ?_
  intro T6 h6 X6 e6 W6 V6'
  have V6 : Arv Z h6 g kp .long (65536 : Int32) [(.long v0), (.long v), (.long v2), (.long v3), (.long v4), (.long v5)] (.long (0 : Int64)) := V6'
  have K7 := (Keep.refl h0 [a, g]).wr W6 (Or.inl (List.mem_of_getElem? (i := 1) rfl))
  have O8 := O0.wr W6 gg
  have N9 := Fr.snoc X6 (Fr.nil _) gg
  have E10 := Ea.wr W6
  have F11 := Fp.other W6 (Or.inl nag)
  have F12 := Fs.other W6 (Or.inl nag)
  have V13 := Vb.other W6 nbg
  refine Go.aloadN X6 hx (hb hby d3_70) rfl rfl rfl ?_
  refine Go.dup X6 hx (hb hby d3_71) rfl rfl ?_
  refine Go.getF X6 hx hZ hown (host := "") (Or.inl (wd 19 rfl)) Via.refl e6 F12 (hb hby d3_72) rfl ?_
  intro T14 X14 e14
  refine Go.lconst X14 hx (hb hby d3_75) rfl (1 : Int64) rfl ?_
  refine Go.ladd X14 hx (hb hby d3_76) rfl ?_
  show Go p e below _ T14 (mkF m 77 #[.val (.ref a), .val (.long v), .second, .val (.int (0 : Int32))] [(.long ((1 : Int64) + (1 : Int64))), (.ref a)])
  rw [show ((1 : Int64) + (1 : Int64)) = (2 : Int64) from by decide]
  refine Go.putF X14 hx hZ hown (host := "") (Or.inl (wd 19 rfl)) Via.refl e14 F12 E10 (Or.inl (wd 20 rfl)) (wd 2 rfl) (ty := .long) (by decide) rfl rfl (hb hby d3_77) rfl ?_
  intro T15 h15 X15 e15 W15 F16
  have K17 := K7.wr W15 (Or.inl (List.mem_of_getElem? (i := 0) rfl))
  have O18 := O8.wr W15 ga
  have N19 := Fr.snoc X15 N9 ga
  have E20 := E10.wr W15
  have F21 := F11.other W15 (Or.inr (slot_ne (Or.inl (wd 13 rfl)) (Or.inl (wd 20 rfl)) (by decide) (t := (.array (.array .long))) (t' := .long) (by decide) (by decide)))
  have V22 := V13.other W15 (Ne.symm nab)
  have V23 := V6.other W15 (Ne.symm nag)
  exact Go.retV X15 hx hret hlk (hb hby d3_80) rfl (by rw [e15]; exact ⟨rfl, N19, K17, E20, F21, F16, V22, V23⟩) (Nat.le_of_ble_eq_true rfl) (Nat.le_of_ble_eq_true rfl)
set_option maxRecDepth 65536 in
set_option maxHeartbeats 40000000 in
theorem lpA2 (l : Launch) (Z : State) (a0 : Array Value) (hw : ∀ d ∈ tables_1, d.before a0 Z = true) (a b g : Addr) (kb kp : ClassId) (v v0 v1 v2 v3 v4 v5 : Int64) (h0 : Heap) (O0 : Old Z Z.heap.size h0) (Ea : Exa Z h0 a "com/example/diktyo/diktyo/analysis/LongPages") (ga : Z.heap.size ≤ a) (gg : Z.heap.size ≤ g) (nab : a ≠ b) (nag : a ≠ g) (nbg : b ≠ g) (Fp : Fld Z h0 a "com/example/diktyo/diktyo/analysis/LongPages" "pages" "[[J" (.ref b)) (Fs : Fld Z h0 a "com/example/diktyo/diktyo/analysis/LongPages" "size" "J" (.long (2 : Int64))) (Vb : Arv Z h0 b kb (.array .long) (1 : Int32) [(.ref g)] .null) (Vg : Arv Z h0 g kp .long (65536 : Int32) [(.long v0), (.long v1), (.long v2), (.long v3), (.long v4), (.long v5)] (.long (0 : Int64))) : Ctr l Z (⟨"com/example/diktyo/diktyo/analysis/LongPages", "add", "(J)V"⟩ : MethodName) prog_14_method_3_code 4 none ({ frames := 0, cells := 0, slots := 0, locals := 0 } : Room) #[(.ref a), (.long v)] h0 (fun v' h L => v' = none ∧ Fr Z.heap.size L ∧ Keep h0 h [a, g] ∧ Exa Z h a "com/example/diktyo/diktyo/analysis/LongPages" ∧ Fld Z h a "com/example/diktyo/diktyo/analysis/LongPages" "pages" "[[J" (.ref b) ∧ Fld Z h a "com/example/diktyo/diktyo/analysis/LongPages" "size" "J" (.long (3 : Int64)) ∧ Arv Z h b kb (.array .long) (1 : Int32) [(.ref g)] .null ∧ Arv Z h g kp .long (65536 : Int32) [(.long v0), (.long v1), (.long v), (.long v3), (.long v4), (.long v5)] (.long (0 : Int64))) := by
  refine Ctr.of (plainFor_of_name pn_1) ?_
  have wd : ∀ {d : Jvm.Cond} (i : Nat), tables_1[i]? = some d → d.before a0 Z = true := fun i q => hw _ (List.mem_of_getElem? q)
  intro p e s m below meth c s₁ hx hby hml hown hnm hret hlk hZ X0 e0
  refine Go.cast (ef_3 m a v) ?_
  show Go p e below _ s₁ (mkF m 0 #[.val (.ref a), .val (.long v), .second, .unset] [])
  refine Go.aloadN X0 hx (hb hby d3_0) rfl rfl rfl ?_
  refine Go.getF X0 hx hZ hown (host := "") (Or.inl (wd 19 rfl)) Via.refl e0 Fs (hb hby d3_1) rfl ?_
  intro T1 X1 e1
  refine Go.bipush X1 hx (hb hby d3_4) rfl (16 : Int32) rfl ?_
  refine Go.lushr X1 hx (hb hby d3_6) rfl ?_
  show Go p e below _ T1 (mkF m 7 #[.val (.ref a), .val (.long v), .second, .unset] [(.long ((((2 : Int64)).toUInt64 >>> ((16 : Int32) &&& 0x3f).toInt64.toUInt64).toInt64))])
  rw [show ((((2 : Int64)).toUInt64 >>> ((16 : Int32) &&& 0x3f).toInt64.toUInt64).toInt64) = (0 : Int64) from by decide]
  refine Go.l2i X1 hx (hb hby d3_7) rfl ?_
  show Go p e below _ T1 (mkF m 8 #[.val (.ref a), .val (.long v), .second, .unset] [(.int (((0 : Int64)).toInt32))])
  rw [show (((0 : Int64)).toInt32) = (0 : Int32) from by decide]
  refine Go.istoreN X1 hx (hb hby d3_8) rfl  #[.val (.ref a), .val (.long v), .second, .val (.int (0 : Int32))] rfl ?_
  refine Go.iloadN X1 hx (hb hby d3_9) rfl rfl  ?_
  refine Go.aloadN X1 hx (hb hby d3_10) rfl rfl rfl ?_
  refine Go.getF X1 hx hZ hown (host := "") (Or.inl (wd 12 rfl)) Via.refl e1 Fp (hb hby d3_11) rfl ?_
  intro T2 X2 e2
  refine Go.alen X2 hx hZ Vb e2 (hb hby d3_14) rfl ?_
  refine Go.icmpYes X2 hx (hb hby d3_15) rfl 35 (feq (by decide : ¬ ((0 : Int32) = (1 : Int32)))).2 (by decide) (by decide) ?_
  refine Go.aloadN X2 hx (hb hby d3_35) rfl rfl rfl ?_
  refine Go.getF X2 hx hZ hown (host := "") (Or.inl (wd 12 rfl)) Via.refl e2 Fp (hb hby d3_36) rfl ?_
  intro T3 X3 e3
  refine Go.iloadN X3 hx (hb hby d3_39) rfl rfl  ?_
  refine Go.aaload X3 hx hZ (.ref g) Vb e3 rfl ⟨by decide, by decide⟩ rfl (hb hby d3_40) rfl ?_
  refine Go.ifnonnullYes X3 hx (hb hby d3_41) rfl 54 (by decide) (by decide) ?_
  refine Go.aloadN X3 hx (hb hby d3_54) rfl rfl rfl ?_
  refine Go.getF X3 hx hZ hown (host := "") (Or.inl (wd 12 rfl)) Via.refl e3 Fp (hb hby d3_55) rfl ?_
  intro T4 X4 e4
  refine Go.iloadN X4 hx (hb hby d3_58) rfl rfl  ?_
  refine Go.aaload X4 hx hZ (.ref g) Vb e4 rfl ⟨by decide, by decide⟩ rfl (hb hby d3_59) rfl ?_
  refine Go.aloadN X4 hx (hb hby d3_60) rfl rfl rfl ?_
  refine Go.getF X4 hx hZ hown (host := "") (Or.inl (wd 19 rfl)) Via.refl e4 Fs (hb hby d3_61) rfl ?_
  intro T5 X5 e5
  refine Go.l2i X5 hx (hb hby d3_64) rfl ?_
  show Go p e below _ T5 (mkF m 65 #[.val (.ref a), .val (.long v), .second, .val (.int (0 : Int32))] [(.int (((2 : Int64)).toInt32)), (.ref g)])
  rw [show (((2 : Int64)).toInt32) = (2 : Int32) from by decide]
  refine Go.ldc X5 hx hZ hown (wd 24 rfl) (hb hby d3_65) rfl ?_
  refine Go.iand X5 hx (hb hby d3_67) rfl ?_
  show Go p e below _ T5 (mkF m 68 #[.val (.ref a), .val (.long v), .second, .val (.int (0 : Int32))] [(.int ((2 : Int32) &&& (65535 : Int32))), (.ref g)])
  rw [show ((2 : Int32) &&& (65535 : Int32)) = (2 : Int32) from by decide]
  refine Go.lloadN X5 hx (hb hby d3_68) rfl rfl  ?_
  refine Go.lastore X5 hx hZ Vg e5 ⟨by decide, by decide⟩ 2 (by decide) (Nat.le_of_ble_eq_true rfl)  (hb hby d3_69) rfl ?_
  intro T6 h6 X6 e6 W6 V6'
  have V6 : Arv Z h6 g kp .long (65536 : Int32) [(.long v0), (.long v1), (.long v), (.long v3), (.long v4), (.long v5)] (.long (0 : Int64)) := V6'
  have K7 := (Keep.refl h0 [a, g]).wr W6 (Or.inl (List.mem_of_getElem? (i := 1) rfl))
  have O8 := O0.wr W6 gg
  have N9 := Fr.snoc X6 (Fr.nil _) gg
  have E10 := Ea.wr W6
  have F11 := Fp.other W6 (Or.inl nag)
  have F12 := Fs.other W6 (Or.inl nag)
  have V13 := Vb.other W6 nbg
  refine Go.aloadN X6 hx (hb hby d3_70) rfl rfl rfl ?_
  refine Go.dup X6 hx (hb hby d3_71) rfl rfl ?_
  refine Go.getF X6 hx hZ hown (host := "") (Or.inl (wd 19 rfl)) Via.refl e6 F12 (hb hby d3_72) rfl ?_
  intro T14 X14 e14
  refine Go.lconst X14 hx (hb hby d3_75) rfl (1 : Int64) rfl ?_
  refine Go.ladd X14 hx (hb hby d3_76) rfl ?_
  show Go p e below _ T14 (mkF m 77 #[.val (.ref a), .val (.long v), .second, .val (.int (0 : Int32))] [(.long ((2 : Int64) + (1 : Int64))), (.ref a)])
  rw [show ((2 : Int64) + (1 : Int64)) = (3 : Int64) from by decide]
  refine Go.putF X14 hx hZ hown (host := "") (Or.inl (wd 19 rfl)) Via.refl e14 F12 E10 (Or.inl (wd 20 rfl)) (wd 2 rfl) (ty := .long) (by decide) rfl rfl (hb hby d3_77) rfl ?_
  intro T15 h15 X15 e15 W15 F16
  have K17 := K7.wr W15 (Or.inl (List.mem_of_getElem? (i := 0) rfl))
  have O18 := O8.wr W15 ga
  have N19 := Fr.snoc X15 N9 ga
  have E20 := E10.wr W15
  have F21 := F11.other W15 (Or.inr (slot_ne (Or.inl (wd 13 rfl)) (Or.inl (wd 20 rfl)) (by decide) (t := (.array (.array .long))) (t' := .long) (by decide) (by decide)))
  have V22 := V13.other W15 (Ne.symm nab)
  have V23 := V6.other W15 (Ne.symm nag)
  exact Go.retV X15 hx hret hlk (hb hby d3_80) rfl (by rw [e15]; exact ⟨rfl, N19, K17, E20, F21, F16, V22, V23⟩) (Nat.le_of_ble_eq_true rfl) (Nat.le_of_ble_eq_true rfl)
theorem d4_0 : decode prog_14_method_2_code 0 = .ok (.aload_n 0, 1) := by decide +kernel
theorem d4_1 : decode prog_14_method_2_code 1 = .ok (.getfield 15, 3) := by decide +kernel
theorem d4_4 : decode prog_14_method_2_code 4 = .ok (.lreturn, 1) := by decide +kernel
theorem ef_4 (m : MethodId) (x0 : Addr) : entryFrame m #[(.ref x0)] 1 = mkF m 0 #[.val (.ref x0)] [] := by first | (simp [entryFrame, mkF, argsToLocals, Value.category]; done) | rfl
set_option maxRecDepth 65536 in
set_option maxHeartbeats 40000000 in
theorem lpN (l : Launch) (Z : State) (a0 : Array Value) (hw : ∀ d ∈ tables_1, d.before a0 Z = true) (a : Addr) (n : Int64) (h0 : Heap) (Fs : Fld Z h0 a "com/example/diktyo/diktyo/analysis/LongPages" "size" "J" (.long n)) : Pur l Z (⟨"com/example/diktyo/diktyo/analysis/LongPages", "size", "()J"⟩ : MethodName) prog_14_method_2_code 1 (some .long) 0 0 #[(.ref a)] h0 (some (.long n)) := by
  refine Ctr.of (plainFor_of_name pn_1) ?_
  have wd : ∀ {d : Jvm.Cond} (i : Nat), tables_1[i]? = some d → d.before a0 Z = true := fun i q => hw _ (List.mem_of_getElem? q)
  intro p e s m below meth c s₁ hx hby hml hown hnm hret hlk hZ X0 e0
  refine Go.cast (ef_4 m a) ?_
  show Go p e below _ s₁ (mkF m 0 #[.val (.ref a)] [])
  refine Go.aloadN X0 hx (hb hby d4_0) rfl rfl rfl ?_
  refine Go.getF X0 hx hZ hown (host := "") (Or.inl (wd 19 rfl)) Via.refl e0 Fs (hb hby d4_1) rfl ?_
  intro T1 X1 e1
  exact Go.retJ X1 hx hret hlk (hb hby d4_4) rfl ⟨by first | rfl | simp [], rfl, e1⟩ (Nat.le_of_ble_eq_true rfl) (Nat.le_of_ble_eq_true rfl)
theorem d5_0 : decode prog_14_method_4_code 0 = .ok (.aload_n 0, 1) := by decide +kernel
theorem d5_1 : decode prog_14_method_4_code 1 = .ok (.getfield 11, 3) := by decide +kernel
theorem d5_4 : decode prog_14_method_4_code 4 = .ok (.lload_n 1, 1) := by decide +kernel
theorem d5_5 : decode prog_14_method_4_code 5 = .ok (.bipush 16, 2) := by decide +kernel
theorem d5_7 : decode prog_14_method_4_code 7 = .ok (.lushr, 1) := by decide +kernel
theorem d5_8 : decode prog_14_method_4_code 8 = .ok (.l2i, 1) := by decide +kernel
theorem d5_9 : decode prog_14_method_4_code 9 = .ok (.aaload, 1) := by decide +kernel
theorem d5_10 : decode prog_14_method_4_code 10 = .ok (.lload_n 1, 1) := by decide +kernel
theorem d5_11 : decode prog_14_method_4_code 11 = .ok (.l2i, 1) := by decide +kernel
theorem d5_12 : decode prog_14_method_4_code 12 = .ok (.ldc 27, 2) := by decide +kernel
theorem d5_14 : decode prog_14_method_4_code 14 = .ok (.iand, 1) := by decide +kernel
theorem d5_15 : decode prog_14_method_4_code 15 = .ok (.laload, 1) := by decide +kernel
theorem d5_16 : decode prog_14_method_4_code 16 = .ok (.lreturn, 1) := by decide +kernel
theorem ef_5 (m : MethodId) (x0 : Addr) (x1 : Int64) : entryFrame m #[(.ref x0), (.long x1)] 3 = mkF m 0 #[.val (.ref x0), .val (.long x1), .second] [] := by first | (simp [entryFrame, mkF, argsToLocals, Value.category]; done) | rfl
set_option maxRecDepth 65536 in
set_option maxHeartbeats 40000000 in
theorem lpG0 (l : Launch) (Z : State) (a0 : Array Value) (hw : ∀ d ∈ tables_1, d.before a0 Z = true) (a b g : Addr) (kb kp : ClassId) (v0 v1 v2 v3 v4 v5 : Int64) (h0 : Heap) (Fp : Fld Z h0 a "com/example/diktyo/diktyo/analysis/LongPages" "pages" "[[J" (.ref b)) (Vb : Arv Z h0 b kb (.array .long) (1 : Int32) [(.ref g)] .null) (Vg : Arv Z h0 g kp .long (65536 : Int32) [(.long v0), (.long v1), (.long v2), (.long v3), (.long v4), (.long v5)] (.long (0 : Int64))) : Pur l Z (⟨"com/example/diktyo/diktyo/analysis/LongPages", "get", "(J)J"⟩ : MethodName) prog_14_method_4_code 3 (some .long) 0 0 #[(.ref a), (.long (0 : Int64))] h0 (some (.long v0)) := by
  refine Ctr.of (plainFor_of_name pn_1) ?_
  have wd : ∀ {d : Jvm.Cond} (i : Nat), tables_1[i]? = some d → d.before a0 Z = true := fun i q => hw _ (List.mem_of_getElem? q)
  intro p e s m below meth c s₁ hx hby hml hown hnm hret hlk hZ X0 e0
  refine Go.cast (ef_5 m a (0 : Int64)) ?_
  show Go p e below _ s₁ (mkF m 0 #[.val (.ref a), .val (.long (0 : Int64)), .second] [])
  refine Go.aloadN X0 hx (hb hby d5_0) rfl rfl rfl ?_
  refine Go.getF X0 hx hZ hown (host := "") (Or.inl (wd 12 rfl)) Via.refl e0 Fp (hb hby d5_1) rfl ?_
  intro T1 X1 e1
  refine Go.lloadN X1 hx (hb hby d5_4) rfl rfl  ?_
  refine Go.bipush X1 hx (hb hby d5_5) rfl (16 : Int32) rfl ?_
  refine Go.lushr X1 hx (hb hby d5_7) rfl ?_
  show Go p e below _ T1 (mkF m 8 #[.val (.ref a), .val (.long (0 : Int64)), .second] [(.long ((((0 : Int64)).toUInt64 >>> ((16 : Int32) &&& 0x3f).toInt64.toUInt64).toInt64)), (.ref b)])
  rw [show ((((0 : Int64)).toUInt64 >>> ((16 : Int32) &&& 0x3f).toInt64.toUInt64).toInt64) = (0 : Int64) from by decide]
  refine Go.l2i X1 hx (hb hby d5_8) rfl ?_
  show Go p e below _ T1 (mkF m 9 #[.val (.ref a), .val (.long (0 : Int64)), .second] [(.int (((0 : Int64)).toInt32)), (.ref b)])
  rw [show (((0 : Int64)).toInt32) = (0 : Int32) from by decide]
  refine Go.aaload X1 hx hZ (.ref g) Vb e1 rfl ⟨by decide, by decide⟩ rfl (hb hby d5_9) rfl ?_
  refine Go.lloadN X1 hx (hb hby d5_10) rfl rfl  ?_
  refine Go.l2i X1 hx (hb hby d5_11) rfl ?_
  show Go p e below _ T1 (mkF m 12 #[.val (.ref a), .val (.long (0 : Int64)), .second] [(.int (((0 : Int64)).toInt32)), (.ref g)])
  rw [show (((0 : Int64)).toInt32) = (0 : Int32) from by decide]
  refine Go.ldc X1 hx hZ hown (wd 24 rfl) (hb hby d5_12) rfl ?_
  refine Go.iand X1 hx (hb hby d5_14) rfl ?_
  show Go p e below _ T1 (mkF m 15 #[.val (.ref a), .val (.long (0 : Int64)), .second] [(.int ((0 : Int32) &&& (65535 : Int32))), (.ref g)])
  rw [show ((0 : Int32) &&& (65535 : Int32)) = (0 : Int32) from by decide]
  refine Go.laload X1 hx hZ (.long v0) Vg e1  ⟨by decide, by decide⟩ rfl (hb hby d5_15) rfl ?_
  exact Go.retJ X1 hx hret hlk (hb hby d5_16) rfl ⟨by first | rfl | simp [], rfl, e1⟩ (Nat.le_of_ble_eq_true rfl) (Nat.le_of_ble_eq_true rfl)
set_option maxRecDepth 65536 in
set_option maxHeartbeats 40000000 in
theorem lpG1 (l : Launch) (Z : State) (a0 : Array Value) (hw : ∀ d ∈ tables_1, d.before a0 Z = true) (a b g : Addr) (kb kp : ClassId) (v0 v1 v2 v3 v4 v5 : Int64) (h0 : Heap) (Fp : Fld Z h0 a "com/example/diktyo/diktyo/analysis/LongPages" "pages" "[[J" (.ref b)) (Vb : Arv Z h0 b kb (.array .long) (1 : Int32) [(.ref g)] .null) (Vg : Arv Z h0 g kp .long (65536 : Int32) [(.long v0), (.long v1), (.long v2), (.long v3), (.long v4), (.long v5)] (.long (0 : Int64))) : Pur l Z (⟨"com/example/diktyo/diktyo/analysis/LongPages", "get", "(J)J"⟩ : MethodName) prog_14_method_4_code 3 (some .long) 0 0 #[(.ref a), (.long (1 : Int64))] h0 (some (.long v1)) := by
  refine Ctr.of (plainFor_of_name pn_1) ?_
  have wd : ∀ {d : Jvm.Cond} (i : Nat), tables_1[i]? = some d → d.before a0 Z = true := fun i q => hw _ (List.mem_of_getElem? q)
  intro p e s m below meth c s₁ hx hby hml hown hnm hret hlk hZ X0 e0
  refine Go.cast (ef_5 m a (1 : Int64)) ?_
  show Go p e below _ s₁ (mkF m 0 #[.val (.ref a), .val (.long (1 : Int64)), .second] [])
  refine Go.aloadN X0 hx (hb hby d5_0) rfl rfl rfl ?_
  refine Go.getF X0 hx hZ hown (host := "") (Or.inl (wd 12 rfl)) Via.refl e0 Fp (hb hby d5_1) rfl ?_
  intro T1 X1 e1
  refine Go.lloadN X1 hx (hb hby d5_4) rfl rfl  ?_
  refine Go.bipush X1 hx (hb hby d5_5) rfl (16 : Int32) rfl ?_
  refine Go.lushr X1 hx (hb hby d5_7) rfl ?_
  show Go p e below _ T1 (mkF m 8 #[.val (.ref a), .val (.long (1 : Int64)), .second] [(.long ((((1 : Int64)).toUInt64 >>> ((16 : Int32) &&& 0x3f).toInt64.toUInt64).toInt64)), (.ref b)])
  rw [show ((((1 : Int64)).toUInt64 >>> ((16 : Int32) &&& 0x3f).toInt64.toUInt64).toInt64) = (0 : Int64) from by decide]
  refine Go.l2i X1 hx (hb hby d5_8) rfl ?_
  show Go p e below _ T1 (mkF m 9 #[.val (.ref a), .val (.long (1 : Int64)), .second] [(.int (((0 : Int64)).toInt32)), (.ref b)])
  rw [show (((0 : Int64)).toInt32) = (0 : Int32) from by decide]
  refine Go.aaload X1 hx hZ (.ref g) Vb e1 rfl ⟨by decide, by decide⟩ rfl (hb hby d5_9) rfl ?_
  refine Go.lloadN X1 hx (hb hby d5_10) rfl rfl  ?_
  refine Go.l2i X1 hx (hb hby d5_11) rfl ?_
  show Go p e below _ T1 (mkF m 12 #[.val (.ref a), .val (.long (1 : Int64)), .second] [(.int (((1 : Int64)).toInt32)), (.ref g)])
  rw [show (((1 : Int64)).toInt32) = (1 : Int32) from by decide]
  refine Go.ldc X1 hx hZ hown (wd 24 rfl) (hb hby d5_12) rfl ?_
  refine Go.iand X1 hx (hb hby d5_14) rfl ?_
  show Go p e below _ T1 (mkF m 15 #[.val (.ref a), .val (.long (1 : Int64)), .second] [(.int ((1 : Int32) &&& (65535 : Int32))), (.ref g)])
  rw [show ((1 : Int32) &&& (65535 : Int32)) = (1 : Int32) from by decide]
  refine Go.laload X1 hx hZ (.long v1) Vg e1  ⟨by decide, by decide⟩ rfl (hb hby d5_15) rfl ?_
  exact Go.retJ X1 hx hret hlk (hb hby d5_16) rfl ⟨by first | rfl | simp [], rfl, e1⟩ (Nat.le_of_ble_eq_true rfl) (Nat.le_of_ble_eq_true rfl)
set_option maxRecDepth 65536 in
set_option maxHeartbeats 40000000 in
theorem lpG2 (l : Launch) (Z : State) (a0 : Array Value) (hw : ∀ d ∈ tables_1, d.before a0 Z = true) (a b g : Addr) (kb kp : ClassId) (v0 v1 v2 v3 v4 v5 : Int64) (h0 : Heap) (Fp : Fld Z h0 a "com/example/diktyo/diktyo/analysis/LongPages" "pages" "[[J" (.ref b)) (Vb : Arv Z h0 b kb (.array .long) (1 : Int32) [(.ref g)] .null) (Vg : Arv Z h0 g kp .long (65536 : Int32) [(.long v0), (.long v1), (.long v2), (.long v3), (.long v4), (.long v5)] (.long (0 : Int64))) : Pur l Z (⟨"com/example/diktyo/diktyo/analysis/LongPages", "get", "(J)J"⟩ : MethodName) prog_14_method_4_code 3 (some .long) 0 0 #[(.ref a), (.long (2 : Int64))] h0 (some (.long v2)) := by
  refine Ctr.of (plainFor_of_name pn_1) ?_
  have wd : ∀ {d : Jvm.Cond} (i : Nat), tables_1[i]? = some d → d.before a0 Z = true := fun i q => hw _ (List.mem_of_getElem? q)
  intro p e s m below meth c s₁ hx hby hml hown hnm hret hlk hZ X0 e0
  refine Go.cast (ef_5 m a (2 : Int64)) ?_
  show Go p e below _ s₁ (mkF m 0 #[.val (.ref a), .val (.long (2 : Int64)), .second] [])
  refine Go.aloadN X0 hx (hb hby d5_0) rfl rfl rfl ?_
  refine Go.getF X0 hx hZ hown (host := "") (Or.inl (wd 12 rfl)) Via.refl e0 Fp (hb hby d5_1) rfl ?_
  intro T1 X1 e1
  refine Go.lloadN X1 hx (hb hby d5_4) rfl rfl  ?_
  refine Go.bipush X1 hx (hb hby d5_5) rfl (16 : Int32) rfl ?_
  refine Go.lushr X1 hx (hb hby d5_7) rfl ?_
  show Go p e below _ T1 (mkF m 8 #[.val (.ref a), .val (.long (2 : Int64)), .second] [(.long ((((2 : Int64)).toUInt64 >>> ((16 : Int32) &&& 0x3f).toInt64.toUInt64).toInt64)), (.ref b)])
  rw [show ((((2 : Int64)).toUInt64 >>> ((16 : Int32) &&& 0x3f).toInt64.toUInt64).toInt64) = (0 : Int64) from by decide]
  refine Go.l2i X1 hx (hb hby d5_8) rfl ?_
  show Go p e below _ T1 (mkF m 9 #[.val (.ref a), .val (.long (2 : Int64)), .second] [(.int (((0 : Int64)).toInt32)), (.ref b)])
  rw [show (((0 : Int64)).toInt32) = (0 : Int32) from by decide]
  refine Go.aaload X1 hx hZ (.ref g) Vb e1 rfl ⟨by decide, by decide⟩ rfl (hb hby d5_9) rfl ?_
  refine Go.lloadN X1 hx (hb hby d5_10) rfl rfl  ?_
  refine Go.l2i X1 hx (hb hby d5_11) rfl ?_
  show Go p e below _ T1 (mkF m 12 #[.val (.ref a), .val (.long (2 : Int64)), .second] [(.int (((2 : Int64)).toInt32)), (.ref g)])
  rw [show (((2 : Int64)).toInt32) = (2 : Int32) from by decide]
  refine Go.ldc X1 hx hZ hown (wd 24 rfl) (hb hby d5_12) rfl ?_
  refine Go.iand X1 hx (hb hby d5_14) rfl ?_
  show Go p e below _ T1 (mkF m 15 #[.val (.ref a), .val (.long (2 : Int64)), .second] [(.int ((2 : Int32) &&& (65535 : Int32))), (.ref g)])
  rw [show ((2 : Int32) &&& (65535 : Int32)) = (2 : Int32) from by decide]
  refine Go.laload X1 hx hZ (.long v2) Vg e1  ⟨by decide, by decide⟩ rfl (hb hby d5_15) rfl ?_
  exact Go.retJ X1 hx hret hlk (hb hby d5_16) rfl ⟨by first | rfl | simp [], rfl, e1⟩ (Nat.le_of_ble_eq_true rfl) (Nat.le_of_ble_eq_true rfl)
theorem d6_0 : decode prog_14_method_5_code 0 = .ok (.aload_n 0, 1) := by decide +kernel
theorem d6_1 : decode prog_14_method_5_code 1 = .ok (.getfield 11, 3) := by decide +kernel
theorem d6_4 : decode prog_14_method_5_code 4 = .ok (.lload_n 1, 1) := by decide +kernel
theorem d6_5 : decode prog_14_method_5_code 5 = .ok (.bipush 16, 2) := by decide +kernel
theorem d6_7 : decode prog_14_method_5_code 7 = .ok (.lushr, 1) := by decide +kernel
theorem d6_8 : decode prog_14_method_5_code 8 = .ok (.l2i, 1) := by decide +kernel
theorem d6_9 : decode prog_14_method_5_code 9 = .ok (.aaload, 1) := by decide +kernel
theorem d6_10 : decode prog_14_method_5_code 10 = .ok (.lload_n 1, 1) := by decide +kernel
theorem d6_11 : decode prog_14_method_5_code 11 = .ok (.l2i, 1) := by decide +kernel
theorem d6_12 : decode prog_14_method_5_code 12 = .ok (.ldc 27, 2) := by decide +kernel
theorem d6_14 : decode prog_14_method_5_code 14 = .ok (.iand, 1) := by decide +kernel
theorem d6_15 : decode prog_14_method_5_code 15 = .ok (.lload_n 3, 1) := by decide +kernel
theorem d6_16 : decode prog_14_method_5_code 16 = .ok (.lastore, 1) := by decide +kernel
theorem d6_17 : decode prog_14_method_5_code 17 = .ok (.return_, 1) := by decide +kernel
theorem ef_6 (m : MethodId) (x0 : Addr) (x1 : Int64) (x2 : Int64) : entryFrame m #[(.ref x0), (.long x1), (.long x2)] 5 = mkF m 0 #[.val (.ref x0), .val (.long x1), .second, .val (.long x2), .second] [] := by first | (simp [entryFrame, mkF, argsToLocals, Value.category]; done) | rfl
set_option maxRecDepth 65536 in
set_option maxHeartbeats 40000000 in
theorem lpS0 (l : Launch) (Z : State) (a0 : Array Value) (hw : ∀ d ∈ tables_1, d.before a0 Z = true) (a b g : Addr) (kb kp : ClassId) (v v0 v1 v2 v3 v4 v5 : Int64) (h0 : Heap) (O0 : Old Z Z.heap.size h0) (gg : Z.heap.size ≤ g) (nag : a ≠ g) (nbg : b ≠ g) (Fp : Fld Z h0 a "com/example/diktyo/diktyo/analysis/LongPages" "pages" "[[J" (.ref b)) (Vb : Arv Z h0 b kb (.array .long) (1 : Int32) [(.ref g)] .null) (Vg : Arv Z h0 g kp .long (65536 : Int32) [(.long v0), (.long v1), (.long v2), (.long v3), (.long v4), (.long v5)] (.long (0 : Int64))) : Ctr l Z (⟨"com/example/diktyo/diktyo/analysis/LongPages", "set", "(JJ)V"⟩ : MethodName) prog_14_method_5_code 5 none ({ frames := 0, cells := 0, slots := 0, locals := 0 } : Room) #[(.ref a), (.long (0 : Int64)), (.long v)] h0 (fun v' h L => v' = none ∧ Fr Z.heap.size L ∧ Keep h0 h [g] ∧ Arv Z h g kp .long (65536 : Int32) [(.long v), (.long v1), (.long v2), (.long v3), (.long v4), (.long v5)] (.long (0 : Int64))) := by
  refine Ctr.of (plainFor_of_name pn_1) ?_
  have wd : ∀ {d : Jvm.Cond} (i : Nat), tables_1[i]? = some d → d.before a0 Z = true := fun i q => hw _ (List.mem_of_getElem? q)
  intro p e s m below meth c s₁ hx hby hml hown hnm hret hlk hZ X0 e0
  refine Go.cast (ef_6 m a (0 : Int64) v) ?_
  show Go p e below _ s₁ (mkF m 0 #[.val (.ref a), .val (.long (0 : Int64)), .second, .val (.long v), .second] [])
  refine Go.aloadN X0 hx (hb hby d6_0) rfl rfl rfl ?_
  refine Go.getF X0 hx hZ hown (host := "") (Or.inl (wd 12 rfl)) Via.refl e0 Fp (hb hby d6_1) rfl ?_
  intro T1 X1 e1
  refine Go.lloadN X1 hx (hb hby d6_4) rfl rfl  ?_
  refine Go.bipush X1 hx (hb hby d6_5) rfl (16 : Int32) rfl ?_
  refine Go.lushr X1 hx (hb hby d6_7) rfl ?_
  show Go p e below _ T1 (mkF m 8 #[.val (.ref a), .val (.long (0 : Int64)), .second, .val (.long v), .second] [(.long ((((0 : Int64)).toUInt64 >>> ((16 : Int32) &&& 0x3f).toInt64.toUInt64).toInt64)), (.ref b)])
  rw [show ((((0 : Int64)).toUInt64 >>> ((16 : Int32) &&& 0x3f).toInt64.toUInt64).toInt64) = (0 : Int64) from by decide]
  refine Go.l2i X1 hx (hb hby d6_8) rfl ?_
  show Go p e below _ T1 (mkF m 9 #[.val (.ref a), .val (.long (0 : Int64)), .second, .val (.long v), .second] [(.int (((0 : Int64)).toInt32)), (.ref b)])
  rw [show (((0 : Int64)).toInt32) = (0 : Int32) from by decide]
  refine Go.aaload X1 hx hZ (.ref g) Vb e1 rfl ⟨by decide, by decide⟩ rfl (hb hby d6_9) rfl ?_
  refine Go.lloadN X1 hx (hb hby d6_10) rfl rfl  ?_
  refine Go.l2i X1 hx (hb hby d6_11) rfl ?_
  show Go p e below _ T1 (mkF m 12 #[.val (.ref a), .val (.long (0 : Int64)), .second, .val (.long v), .second] [(.int (((0 : Int64)).toInt32)), (.ref g)])
  rw [show (((0 : Int64)).toInt32) = (0 : Int32) from by decide]
  refine Go.ldc X1 hx hZ hown (wd 24 rfl) (hb hby d6_12) rfl ?_
  refine Go.iand X1 hx (hb hby d6_14) rfl ?_
  show Go p e below _ T1 (mkF m 15 #[.val (.ref a), .val (.long (0 : Int64)), .second, .val (.long v), .second] [(.int ((0 : Int32) &&& (65535 : Int32))), (.ref g)])
  rw [show ((0 : Int32) &&& (65535 : Int32)) = (0 : Int32) from by decide]
  refine Go.lloadN X1 hx (hb hby d6_15) rfl rfl  ?_
  refine Go.lastore X1 hx hZ Vg e1 ⟨by decide, by decide⟩ 0 (by decide) (Nat.le_of_ble_eq_true rfl)  (hb hby d6_16) rfl ?_
  intro T2 h2 X2 e2 W2 V2'
  have V2 : Arv Z h2 g kp .long (65536 : Int32) [(.long v), (.long v1), (.long v2), (.long v3), (.long v4), (.long v5)] (.long (0 : Int64)) := V2'
  have K3 := (Keep.refl h0 [g]).wr W2 (Or.inl (List.mem_of_getElem? (i := 0) rfl))
  have O4 := O0.wr W2 gg
  have N5 := Fr.snoc X2 (Fr.nil _) gg
  have F6 := Fp.other W2 (Or.inl nag)
  have V7 := Vb.other W2 nbg
  exact Go.retV X2 hx hret hlk (hb hby d6_17) rfl (by rw [e2]; exact ⟨rfl, N5, K3, V2⟩) (Nat.le_of_ble_eq_true rfl) (Nat.le_of_ble_eq_true rfl)
set_option maxRecDepth 65536 in
set_option maxHeartbeats 40000000 in
theorem lpS1 (l : Launch) (Z : State) (a0 : Array Value) (hw : ∀ d ∈ tables_1, d.before a0 Z = true) (a b g : Addr) (kb kp : ClassId) (v v0 v1 v2 v3 v4 v5 : Int64) (h0 : Heap) (O0 : Old Z Z.heap.size h0) (gg : Z.heap.size ≤ g) (nag : a ≠ g) (nbg : b ≠ g) (Fp : Fld Z h0 a "com/example/diktyo/diktyo/analysis/LongPages" "pages" "[[J" (.ref b)) (Vb : Arv Z h0 b kb (.array .long) (1 : Int32) [(.ref g)] .null) (Vg : Arv Z h0 g kp .long (65536 : Int32) [(.long v0), (.long v1), (.long v2), (.long v3), (.long v4), (.long v5)] (.long (0 : Int64))) : Ctr l Z (⟨"com/example/diktyo/diktyo/analysis/LongPages", "set", "(JJ)V"⟩ : MethodName) prog_14_method_5_code 5 none ({ frames := 0, cells := 0, slots := 0, locals := 0 } : Room) #[(.ref a), (.long (1 : Int64)), (.long v)] h0 (fun v' h L => v' = none ∧ Fr Z.heap.size L ∧ Keep h0 h [g] ∧ Arv Z h g kp .long (65536 : Int32) [(.long v0), (.long v), (.long v2), (.long v3), (.long v4), (.long v5)] (.long (0 : Int64))) := by
  refine Ctr.of (plainFor_of_name pn_1) ?_
  have wd : ∀ {d : Jvm.Cond} (i : Nat), tables_1[i]? = some d → d.before a0 Z = true := fun i q => hw _ (List.mem_of_getElem? q)
  intro p e s m below meth c s₁ hx hby hml hown hnm hret hlk hZ X0 e0
  refine Go.cast (ef_6 m a (1 : Int64) v) ?_
  show Go p e below _ s₁ (mkF m 0 #[.val (.ref a), .val (.long (1 : Int64)), .second, .val (.long v), .second] [])
  refine Go.aloadN X0 hx (hb hby d6_0) rfl rfl rfl ?_
  refine Go.getF X0 hx hZ hown (host := "") (Or.inl (wd 12 rfl)) Via.refl e0 Fp (hb hby d6_1) rfl ?_
  intro T1 X1 e1
  refine Go.lloadN X1 hx (hb hby d6_4) rfl rfl  ?_
  refine Go.bipush X1 hx (hb hby d6_5) rfl (16 : Int32) rfl ?_
  refine Go.lushr X1 hx (hb hby d6_7) rfl ?_
  show Go p e below _ T1 (mkF m 8 #[.val (.ref a), .val (.long (1 : Int64)), .second, .val (.long v), .second] [(.long ((((1 : Int64)).toUInt64 >>> ((16 : Int32) &&& 0x3f).toInt64.toUInt64).toInt64)), (.ref b)])
  rw [show ((((1 : Int64)).toUInt64 >>> ((16 : Int32) &&& 0x3f).toInt64.toUInt64).toInt64) = (0 : Int64) from by decide]
  refine Go.l2i X1 hx (hb hby d6_8) rfl ?_
  show Go p e below _ T1 (mkF m 9 #[.val (.ref a), .val (.long (1 : Int64)), .second, .val (.long v), .second] [(.int (((0 : Int64)).toInt32)), (.ref b)])
  rw [show (((0 : Int64)).toInt32) = (0 : Int32) from by decide]
  refine Go.aaload X1 hx hZ (.ref g) Vb e1 rfl ⟨by decide, by decide⟩ rfl (hb hby d6_9) rfl ?_
  refine Go.lloadN X1 hx (hb hby d6_10) rfl rfl  ?_
  refine Go.l2i X1 hx (hb hby d6_11) rfl ?_
  show Go p e below _ T1 (mkF m 12 #[.val (.ref a), .val (.long (1 : Int64)), .second, .val (.long v), .second] [(.int (((1 : Int64)).toInt32)), (.ref g)])
  rw [show (((1 : Int64)).toInt32) = (1 : Int32) from by decide]
  refine Go.ldc X1 hx hZ hown (wd 24 rfl) (hb hby d6_12) rfl ?_
  refine Go.iand X1 hx (hb hby d6_14) rfl ?_
  show Go p e below _ T1 (mkF m 15 #[.val (.ref a), .val (.long (1 : Int64)), .second, .val (.long v), .second] [(.int ((1 : Int32) &&& (65535 : Int32))), (.ref g)])
  rw [show ((1 : Int32) &&& (65535 : Int32)) = (1 : Int32) from by decide]
  refine Go.lloadN X1 hx (hb hby d6_15) rfl rfl  ?_
  refine Go.lastore X1 hx hZ Vg e1 ⟨by decide, by decide⟩ 1 (by decide) (Nat.le_of_ble_eq_true rfl)  (hb hby d6_16) rfl ?_
  intro T2 h2 X2 e2 W2 V2'
  have V2 : Arv Z h2 g kp .long (65536 : Int32) [(.long v0), (.long v), (.long v2), (.long v3), (.long v4), (.long v5)] (.long (0 : Int64)) := V2'
  have K3 := (Keep.refl h0 [g]).wr W2 (Or.inl (List.mem_of_getElem? (i := 0) rfl))
  have O4 := O0.wr W2 gg
  have N5 := Fr.snoc X2 (Fr.nil _) gg
  have F6 := Fp.other W2 (Or.inl nag)
  have V7 := Vb.other W2 nbg
  exact Go.retV X2 hx hret hlk (hb hby d6_17) rfl (by rw [e2]; exact ⟨rfl, N5, K3, V2⟩) (Nat.le_of_ble_eq_true rfl) (Nat.le_of_ble_eq_true rfl)
set_option maxRecDepth 65536 in
set_option maxHeartbeats 40000000 in
theorem lpS2 (l : Launch) (Z : State) (a0 : Array Value) (hw : ∀ d ∈ tables_1, d.before a0 Z = true) (a b g : Addr) (kb kp : ClassId) (v v0 v1 v2 v3 v4 v5 : Int64) (h0 : Heap) (O0 : Old Z Z.heap.size h0) (gg : Z.heap.size ≤ g) (nag : a ≠ g) (nbg : b ≠ g) (Fp : Fld Z h0 a "com/example/diktyo/diktyo/analysis/LongPages" "pages" "[[J" (.ref b)) (Vb : Arv Z h0 b kb (.array .long) (1 : Int32) [(.ref g)] .null) (Vg : Arv Z h0 g kp .long (65536 : Int32) [(.long v0), (.long v1), (.long v2), (.long v3), (.long v4), (.long v5)] (.long (0 : Int64))) : Ctr l Z (⟨"com/example/diktyo/diktyo/analysis/LongPages", "set", "(JJ)V"⟩ : MethodName) prog_14_method_5_code 5 none ({ frames := 0, cells := 0, slots := 0, locals := 0 } : Room) #[(.ref a), (.long (2 : Int64)), (.long v)] h0 (fun v' h L => v' = none ∧ Fr Z.heap.size L ∧ Keep h0 h [g] ∧ Arv Z h g kp .long (65536 : Int32) [(.long v0), (.long v1), (.long v), (.long v3), (.long v4), (.long v5)] (.long (0 : Int64))) := by
  refine Ctr.of (plainFor_of_name pn_1) ?_
  have wd : ∀ {d : Jvm.Cond} (i : Nat), tables_1[i]? = some d → d.before a0 Z = true := fun i q => hw _ (List.mem_of_getElem? q)
  intro p e s m below meth c s₁ hx hby hml hown hnm hret hlk hZ X0 e0
  refine Go.cast (ef_6 m a (2 : Int64) v) ?_
  show Go p e below _ s₁ (mkF m 0 #[.val (.ref a), .val (.long (2 : Int64)), .second, .val (.long v), .second] [])
  refine Go.aloadN X0 hx (hb hby d6_0) rfl rfl rfl ?_
  refine Go.getF X0 hx hZ hown (host := "") (Or.inl (wd 12 rfl)) Via.refl e0 Fp (hb hby d6_1) rfl ?_
  intro T1 X1 e1
  refine Go.lloadN X1 hx (hb hby d6_4) rfl rfl  ?_
  refine Go.bipush X1 hx (hb hby d6_5) rfl (16 : Int32) rfl ?_
  refine Go.lushr X1 hx (hb hby d6_7) rfl ?_
  show Go p e below _ T1 (mkF m 8 #[.val (.ref a), .val (.long (2 : Int64)), .second, .val (.long v), .second] [(.long ((((2 : Int64)).toUInt64 >>> ((16 : Int32) &&& 0x3f).toInt64.toUInt64).toInt64)), (.ref b)])
  rw [show ((((2 : Int64)).toUInt64 >>> ((16 : Int32) &&& 0x3f).toInt64.toUInt64).toInt64) = (0 : Int64) from by decide]
  refine Go.l2i X1 hx (hb hby d6_8) rfl ?_
  show Go p e below _ T1 (mkF m 9 #[.val (.ref a), .val (.long (2 : Int64)), .second, .val (.long v), .second] [(.int (((0 : Int64)).toInt32)), (.ref b)])
  rw [show (((0 : Int64)).toInt32) = (0 : Int32) from by decide]
  refine Go.aaload X1 hx hZ (.ref g) Vb e1 rfl ⟨by decide, by decide⟩ rfl (hb hby d6_9) rfl ?_
  refine Go.lloadN X1 hx (hb hby d6_10) rfl rfl  ?_
  refine Go.l2i X1 hx (hb hby d6_11) rfl ?_
  show Go p e below _ T1 (mkF m 12 #[.val (.ref a), .val (.long (2 : Int64)), .second, .val (.long v), .second] [(.int (((2 : Int64)).toInt32)), (.ref g)])
  rw [show (((2 : Int64)).toInt32) = (2 : Int32) from by decide]
  refine Go.ldc X1 hx hZ hown (wd 24 rfl) (hb hby d6_12) rfl ?_
  refine Go.iand X1 hx (hb hby d6_14) rfl ?_
  show Go p e below _ T1 (mkF m 15 #[.val (.ref a), .val (.long (2 : Int64)), .second, .val (.long v), .second] [(.int ((2 : Int32) &&& (65535 : Int32))), (.ref g)])
  rw [show ((2 : Int32) &&& (65535 : Int32)) = (2 : Int32) from by decide]
  refine Go.lloadN X1 hx (hb hby d6_15) rfl rfl  ?_
  refine Go.lastore X1 hx hZ Vg e1 ⟨by decide, by decide⟩ 2 (by decide) (Nat.le_of_ble_eq_true rfl)  (hb hby d6_16) rfl ?_
  intro T2 h2 X2 e2 W2 V2'
  have V2 : Arv Z h2 g kp .long (65536 : Int32) [(.long v0), (.long v1), (.long v), (.long v3), (.long v4), (.long v5)] (.long (0 : Int64)) := V2'
  have K3 := (Keep.refl h0 [g]).wr W2 (Or.inl (List.mem_of_getElem? (i := 0) rfl))
  have O4 := O0.wr W2 gg
  have N5 := Fr.snoc X2 (Fr.nil _) gg
  have F6 := Fp.other W2 (Or.inl nag)
  have V7 := Vb.other W2 nbg
  exact Go.retV X2 hx hret hlk (hb hby d6_17) rfl (by rw [e2]; exact ⟨rfl, N5, K3, V2⟩) (Nat.le_of_ble_eq_true rfl) (Nat.le_of_ble_eq_true rfl)
set_option maxRecDepth 65536 in
set_option maxHeartbeats 40000000 in
theorem rm0 (l : Launch) (Z : State) (a0 : Array Value) (hw : ∀ d ∈ tables_1, d.before a0 Z = true) (x0 : Int64) (x1 : Int64) (x2 : Int64) (x3 : Int64) (x4 : Int32)  : Ctr l Z x code maxLocals ret room_1 #[(.long x0), (.long x1), (.long x2), (.long x3), (.int x4)] Z.heap (fun v h L => v = some (.int 1) ∧ Fr Z.heap.size L) := by
  refine Ctr.of (plainFor_of_name pn_0) ?_
  have wd : ∀ {d : Jvm.Cond} (i : Nat), tables_1[i]? = some d → d.before a0 Z = true := fun i q => hw _ (List.mem_of_getElem? q)
  intro p e s m below meth c s₁ hx hby hml hown hnm hret hlk hZ X0 e0
  have hown : s.vm.findClass "com/example/diktyo/diktyo/analysis/LongPagesGetPinLaw" = some m.cls := hown
  have O0 := Old.start Z
  refine Go.cast (ef_0 m x0 x1 x2 x3 x4) ?_
  show Go p e below _ s₁ (mkF m 0 #[.val (.long x0), .second, .val (.long x1), .second, .val (.long x2), .second, .val (.long x3), .second, .val (.int x4), .unset, .unset, .unset, .unset, .unset, .unset, .unset, .unset, .unset] [])
  refine Go.iload X0 hx (hb hby at_0) rfl rfl  ?_
  refine Go.bipush X0 hx (hb hby at_2) rfl (20 : Int32) rfl ?_
  refine Go.iushr X0 hx (hb hby at_4) rfl ?_
  refine Go.iconst X0 hx (hb hby at_5) rfl (1 : Int32) rfl ?_
  refine Go.iand X0 hx (hb hby at_6) rfl ?_
  refine Go.joinI X0 e0 ((if ((((x4).toUInt32 >>> ((20 : Int32) &&& 31).toUInt32).toInt32) &&& (1 : Int32)) = 0 then 0 else 1 : Int32)) (fun z => mkF m 15 #[.val (.long x0), .second, .val (.long x1), .second, .val (.long x2), .second, .val (.long x3), .second, .val (.int x4), .unset, .unset, .unset, .unset, .unset, .unset, .unset, .unset, .unset] [(.int z)]) ?_ ?_
  · intro J1
    by_cases hc2 : ((((x4).toUInt32 >>> ((20 : Int32) &&& 31).toUInt32).toInt32) &&& (1 : Int32)) = (0 : Int32)
    · refine Go.ifYes X0 hx (hb hby at_7) rfl 14 ((if0 _ _).trans (teq hc2).1) (by decide) (by decide) ?_
      refine Go.iconst X0 hx (hb hby at_14) rfl (0 : Int32) rfl ?_
      exact J1 _ _ (if_pos hc2).symm X0 e0
    · refine Go.ifNo X0 hx (hb hby at_7) rfl ((if0 _ _).trans (feq hc2).1) ?_
      refine Go.iconst X0 hx (hb hby at_10) rfl (1 : Int32) rfl ?_
      refine Go.goto X0 hx (hb hby at_11) rfl 15 (by decide) (by decide) ?_
      exact J1 _ _ (if_neg hc2).symm X0 e0
  intro T3 X3 e3
  show Go p e below _ T3 (mkF m 15 #[.val (.long x0), .second, .val (.long x1), .second, .val (.long x2), .second, .val (.long x3), .second, .val (.int x4), .unset, .unset, .unset, .unset, .unset, .unset, .unset, .unset, .unset] [(.int (if ((((x4).toUInt32 >>> ((20 : Int32) &&& 31).toUInt32).toInt32) &&& (1 : Int32)) = 0 then 0 else 1 : Int32))])
  refine Go.istore X3 hx (hb hby at_15) rfl  #[.val (.long x0), .second, .val (.long x1), .second, .val (.long x2), .second, .val (.long x3), .second, .val (.int x4), .val (.int (if ((((x4).toUInt32 >>> ((20 : Int32) &&& 31).toUInt32).toInt32) &&& (1 : Int32)) = 0 then 0 else 1 : Int32)), .unset, .unset, .unset, .unset, .unset, .unset, .unset, .unset] rfl ?_
  refine Go.iload X3 hx (hb hby at_17) rfl rfl  ?_
  refine Go.bipush X3 hx (hb hby at_19) rfl (8 : Int32) rfl ?_
  refine Go.iushr X3 hx (hb hby at_21) rfl ?_
  refine Go.ldc X3 hx hZ hown (wd 0 rfl) (hb hby at_22) rfl ?_
  refine Go.iand X3 hx (hb hby at_24) rfl ?_
  refine Go.iconst X3 hx (hb hby at_25) rfl (3 : Int32) rfl ?_
  refine Go.irem X3 hx (hb hby at_26) rfl (by decide) ?_
  refine Go.istore X3 hx (hb hby at_27) rfl  #[.val (.long x0), .second, .val (.long x1), .second, .val (.long x2), .second, .val (.long x3), .second, .val (.int x4), .val (.int (if ((((x4).toUInt32 >>> ((20 : Int32) &&& 31).toUInt32).toInt32) &&& (1 : Int32)) = 0 then 0 else 1 : Int32)), .val (.int (((((x4).toUInt32 >>> ((8 : Int32) &&& 31).toUInt32).toInt32) &&& (2147483647 : Int32)) % (3 : Int32))), .unset, .unset, .unset, .unset, .unset, .unset, .unset] rfl ?_
  refine Go.lloadN X3 hx (hb hby at_29) rfl rfl  ?_
  refine Go.lstore X3 hx (hb hby at_30) rfl  #[.val (.long x0), .second, .val (.long x1), .second, .val (.long x2), .second, .val (.long x3), .second, .val (.int x4), .val (.int (if ((((x4).toUInt32 >>> ((20 : Int32) &&& 31).toUInt32).toInt32) &&& (1 : Int32)) = 0 then 0 else 1 : Int32)), .val (.int (((((x4).toUInt32 >>> ((8 : Int32) &&& 31).toUInt32).toInt32) &&& (2147483647 : Int32)) % (3 : Int32))), .val (.long x0), .second, .unset, .unset, .unset, .unset, .unset] rfl ?_
  refine Go.lloadN X3 hx (hb hby at_32) rfl rfl  ?_
  refine Go.lstore X3 hx (hb hby at_33) rfl  #[.val (.long x0), .second, .val (.long x1), .second, .val (.long x2), .second, .val (.long x3), .second, .val (.int x4), .val (.int (if ((((x4).toUInt32 >>> ((20 : Int32) &&& 31).toUInt32).toInt32) &&& (1 : Int32)) = 0 then 0 else 1 : Int32)), .val (.int (((((x4).toUInt32 >>> ((8 : Int32) &&& 31).toUInt32).toInt32) &&& (2147483647 : Int32)) % (3 : Int32))), .val (.long x0), .second, .val (.long x1), .second, .unset, .unset, .unset] rfl ?_
  refine Go.lload X3 hx (hb hby at_35) rfl rfl  ?_
  refine Go.lstore X3 hx (hb hby at_37) rfl  #[.val (.long x0), .second, .val (.long x1), .second, .val (.long x2), .second, .val (.long x3), .second, .val (.int x4), .val (.int (if ((((x4).toUInt32 >>> ((20 : Int32) &&& 31).toUInt32).toInt32) &&& (1 : Int32)) = 0 then 0 else 1 : Int32)), .val (.int (((((x4).toUInt32 >>> ((8 : Int32) &&& 31).toUInt32).toInt32) &&& (2147483647 : Int32)) % (3 : Int32))), .val (.long x0), .second, .val (.long x1), .second, .val (.long x2), .second, .unset] rfl ?_
  refine Go.newO X3 hx hZ hown (wd 1 rfl) (wd 2 rfl) (wd 3 rfl) e3 (hb hby at_39) rfl (Nat.le_of_ble_eq_true rfl) (Nat.le_of_ble_eq_true rfl) ?_
  intro T4 h4 b4 g4 X4 e4 E4 A4 D4
  have F5 : Fld Z h4 b4 "com/example/diktyo/diktyo/analysis/LongPages" "pages" "[[J" .null := D4 (Or.inl (wd 13 rfl)) (ty := (.array (.array .long))) (by decide)
  have F6 : Fld Z h4 b4 "com/example/diktyo/diktyo/analysis/LongPages" "size" "J" (.long (0 : Int64)) := D4 (Or.inl (wd 20 rfl)) (ty := .long) (by decide)
  have q4 : Z.heap.size ≤ b4 := Nat.le_trans O0.2.1 (Nat.le_of_eq g4.symm)
  have O7 := O0.ext E4
  refine Go.dup X4 hx (hb hby at_42) rfl rfl ?_
  refine Go.callI X4 hx hZ rfl hown (wd 4 rfl) (wd 5 rfl) (wd 3 rfl) (wd 6 rfl) (by decide) [] [(.ref b4)] (lpI l Z a0 hw b4 h4 O7 A4 q4 F5 F6) e4 rfl (by rw [hml]; rfl) pd_0 rfl (hb hby at_43) (Nat.le_of_ble_eq_true rfl) (Nat.le_of_ble_eq_true rfl) (Nat.le_of_ble_eq_true rfl) (Nat.le_of_ble_eq_true rfl) ?_
  rintro vv8 T8 L8 X8 Q8
  obtain ⟨rfl, N8, K8, E8, b8, k8, sz8, Fp8, Fs8, Vb8, Ov8⟩ := Q8
  have M9 := Fr.app (Fr.nil _) N8
  have q8 : Z.heap.size ≤ b8 := Nat.le_trans O7.2.1 sz8
  have ne_b4_b8 : b4 ≠ b8 := Nat.ne_of_lt (Nat.lt_of_lt_of_le A4.lt sz8)
  have O10 := O7.keep K8 (allS q4 (all0))
  have E11 := A4.keep K8
  refine Go.astore X8 hx (hb hby at_46) rfl rfl #[.val (.long x0), .second, .val (.long x1), .second, .val (.long x2), .second, .val (.long x3), .second, .val (.int x4), .val (.int (if ((((x4).toUInt32 >>> ((20 : Int32) &&& 31).toUInt32).toInt32) &&& (1 : Int32)) = 0 then 0 else 1 : Int32)), .val (.int (((((x4).toUInt32 >>> ((8 : Int32) &&& 31).toUInt32).toInt32) &&& (2147483647 : Int32)) % (3 : Int32))), .val (.long x0), .second, .val (.long x1), .second, .val (.long x2), .second, .val (.ref b4)] rfl ?_
  refine Go.aload X8 hx (hb hby at_48) rfl rfl rfl ?_
  refine Go.lloadN X8 hx (hb hby at_50) rfl rfl  ?_
  refine Go.callV X8 hx hZ hown (wd 14 rfl) (wd 15 rfl) (notFace_of_selects (args := #[]) (mvT hZ (wd 17 rfl))) (wd 17 rfl) (wd 16 rfl) (wd 3 rfl) (wd 18 rfl) (by decide) [(.long x0)] [] E8 (lpA0 l Z a0 hw b4 b8 k8 x0 T8.heap O10 E8 q4 q8 ne_b4_b8 Fp8 Fs8 Vb8 Ov8) rfl rfl (by rw [hml]; rfl) pd_1 rfl (hb hby at_51) (Nat.le_of_ble_eq_true rfl) (Nat.le_of_ble_eq_true rfl) (Nat.le_of_ble_eq_true rfl) (Nat.le_of_ble_eq_true rfl) ?_
  rintro vv12 T12 L12 X12 Q12
  obtain ⟨rfl, N12, K12, E12, g12, k12, sz12, Fp12, Fs12, Vb12, Vg12⟩ := Q12
  have M13 := Fr.app M9 N12
  have q12 : Z.heap.size ≤ g12 := Nat.le_trans O10.2.1 sz12
  have ne_b4_g12 : b4 ≠ g12 := Nat.ne_of_lt (Nat.lt_of_lt_of_le E8.lt sz12)
  have ne_b8_g12 : b8 ≠ g12 := Nat.ne_of_lt (Nat.lt_of_lt_of_le Vb8.lt sz12)
  have O14 := O10.keep K12 (allS q4 (allS q8 (all0)))
  have E15 := E8.keep K12
  refine Go.aload X12 hx (hb hby at_54) rfl rfl rfl ?_
  refine Go.lloadN X12 hx (hb hby at_56) rfl rfl  ?_
  refine Go.callV X12 hx hZ hown (wd 14 rfl) (wd 15 rfl) (notFace_of_selects (args := #[]) (mvT hZ (wd 17 rfl))) (wd 17 rfl) (wd 16 rfl) (wd 3 rfl) (wd 18 rfl) (by decide) [(.long x1)] [] E12 (lpA1 l Z a0 hw b4 b8 g12 k8 k12 x1 x0 (0 : Int64) (0 : Int64) (0 : Int64) (0 : Int64) (0 : Int64) T12.heap O14 E12 q4 q12 ne_b4_b8 ne_b4_g12 ne_b8_g12 Fp12 Fs12 Vb12 Vg12) rfl rfl (by rw [hml]; rfl) pd_1 rfl (hb hby at_57) (Nat.le_of_ble_eq_true rfl) (Nat.le_of_ble_eq_true rfl) (Nat.le_of_ble_eq_true rfl) (Nat.le_of_ble_eq_true rfl) ?_
  rintro vv16 T16 L16 X16 Q16
  obtain ⟨rfl, N16, K16, E16, Fp16, Fs16, Vb16, Vg16⟩ := Q16
  have M17 := Fr.app M13 N16
  have O18 := O14.keep K16 (allS q4 (allS q12 (all0)))
  have E19 := E12.keep K16
  have V20 := Vb12.keep K16 (ninS (Ne.symm ne_b4_b8) (ninS ne_b8_g12 (nin0)))
  refine Go.aload X16 hx (hb hby at_60) rfl rfl rfl ?_
  refine Go.lload X16 hx (hb hby at_62) rfl rfl  ?_
  refine Go.callV X16 hx hZ hown (wd 14 rfl) (wd 15 rfl) (notFace_of_selects (args := #[]) (mvT hZ (wd 17 rfl))) (wd 17 rfl) (wd 16 rfl) (wd 3 rfl) (wd 18 rfl) (by decide) [(.long x2)] [] E16 (lpA2 l Z a0 hw b4 b8 g12 k8 k12 x2 x0 x1 (0 : Int64) (0 : Int64) (0 : Int64) (0 : Int64) T16.heap O18 E16 q4 q12 ne_b4_b8 ne_b4_g12 ne_b8_g12 Fp16 Fs16 V20 Vg16) rfl rfl (by rw [hml]; rfl) pd_1 rfl (hb hby at_64) (Nat.le_of_ble_eq_true rfl) (Nat.le_of_ble_eq_true rfl) (Nat.le_of_ble_eq_true rfl) (Nat.le_of_ble_eq_true rfl) ?_
  rintro vv21 T21 L21 X21 Q21
  obtain ⟨rfl, N21, K21, E21, Fp21, Fs21, Vb21, Vg21⟩ := Q21
  have M22 := Fr.app M17 N21
  have O23 := O18.keep K21 (allS q4 (allS q12 (all0)))
  have E24 := E16.keep K21
  have V25 := V20.keep K21 (ninS (Ne.symm ne_b4_b8) (ninS ne_b8_g12 (nin0)))
  refine Go.iload X21 hx (hb hby at_67) rfl rfl  ?_
  by_cases hc26 : (if ((((x4).toUInt32 >>> ((20 : Int32) &&& 31).toUInt32).toInt32) &&& (1 : Int32)) = 0 then 0 else 1 : Int32) = (0 : Int32)
  · refine Go.ifYes X21 hx (hb hby at_69) rfl 111 ((if0 _ _).trans (teq hc26).1) (by decide) (by decide) ?_
    refine Go.aload X21 hx (hb hby at_111) rfl rfl rfl ?_
    refine Go.pureV X21 hx hZ hown (wd 25 rfl) (wd 26 rfl) (notFace_of_selects (args := #[]) (mvT hZ (wd 28 rfl))) (wd 28 rfl) (wd 27 rfl) (wd 3 rfl) (wd 29 rfl) (by decide) [] [] E21 (lpN l Z a0 hw b4 (3 : Int64) T21.heap Fs21) rfl rfl (by rw [hml]; rfl) pd_2 rfl (hb hby at_113) (Nat.le_of_ble_eq_true rfl) (Nat.le_of_ble_eq_true rfl) (Nat.le_of_ble_eq_true rfl) (Nat.le_of_ble_eq_true rfl) ?_
    intro T27 X27 e27
    refine Go.ldc2_w X27 hx hZ hown (wd 30 rfl) (hb hby at_116) rfl ?_
    refine Go.lcmp X27 hx (hb hby at_119) rfl ?_
    refine Go.ifYes X27 hx (hb hby at_120) rfl 125 ((if0 _ _).trans (teq ((lw_eq (3 : Int64) (3 : Int64)).mpr (by decide : (3 : Int64) = (3 : Int64)))).1) (by decide) (by decide) ?_
    refine Go.aload X27 hx (hb hby at_125) rfl rfl rfl ?_
    refine Go.lconst X27 hx (hb hby at_127) rfl (0 : Int64) rfl ?_
    refine Go.pureV X27 hx hZ hown (wd 31 rfl) (wd 32 rfl) (notFace_of_selects (args := #[]) (mvT hZ (wd 34 rfl))) (wd 34 rfl) (wd 33 rfl) (wd 3 rfl) (wd 35 rfl) (by decide) [(.long (0 : Int64))] [] E21 (lpG0 l Z a0 hw b4 b8 g12 k8 k12 x0 x1 x2 (0 : Int64) (0 : Int64) (0 : Int64) T21.heap Fp21 V25 Vg21) e27 rfl (by rw [hml]; rfl) pd_3 rfl (hb hby at_128) (Nat.le_of_ble_eq_true rfl) (Nat.le_of_ble_eq_true rfl) (Nat.le_of_ble_eq_true rfl) (Nat.le_of_ble_eq_true rfl) ?_
    intro T28 X28 e28
    refine Go.lload X28 hx (hb hby at_131) rfl rfl  ?_
    refine Go.lcmp X28 hx (hb hby at_133) rfl ?_
    refine Go.ifNo X28 hx (hb hby at_134) rfl ((if0 _ _).trans (teq ((lw_eq x0 x0).mpr (rfl : x0 = x0))).2) ?_
    refine Go.aload X28 hx (hb hby at_137) rfl rfl rfl ?_
    refine Go.lconst X28 hx (hb hby at_139) rfl (1 : Int64) rfl ?_
    refine Go.pureV X28 hx hZ hown (wd 31 rfl) (wd 32 rfl) (notFace_of_selects (args := #[]) (mvT hZ (wd 34 rfl))) (wd 34 rfl) (wd 33 rfl) (wd 3 rfl) (wd 35 rfl) (by decide) [(.long (1 : Int64))] [] E21 (lpG1 l Z a0 hw b4 b8 g12 k8 k12 x0 x1 x2 (0 : Int64) (0 : Int64) (0 : Int64) T21.heap Fp21 V25 Vg21) e28 rfl (by rw [hml]; rfl) pd_3 rfl (hb hby at_140) (Nat.le_of_ble_eq_true rfl) (Nat.le_of_ble_eq_true rfl) (Nat.le_of_ble_eq_true rfl) (Nat.le_of_ble_eq_true rfl) ?_
    intro T29 X29 e29
    refine Go.lload X29 hx (hb hby at_143) rfl rfl  ?_
    refine Go.lcmp X29 hx (hb hby at_145) rfl ?_
    refine Go.ifNo X29 hx (hb hby at_146) rfl ((if0 _ _).trans (teq ((lw_eq x1 x1).mpr (rfl : x1 = x1))).2) ?_
    refine Go.aload X29 hx (hb hby at_149) rfl rfl rfl ?_
    refine Go.ldc2_w X29 hx hZ hown (wd 36 rfl) (hb hby at_151) rfl ?_
    refine Go.pureV X29 hx hZ hown (wd 31 rfl) (wd 32 rfl) (notFace_of_selects (args := #[]) (mvT hZ (wd 34 rfl))) (wd 34 rfl) (wd 33 rfl) (wd 3 rfl) (wd 35 rfl) (by decide) [(.long (2 : Int64))] [] E21 (lpG2 l Z a0 hw b4 b8 g12 k8 k12 x0 x1 x2 (0 : Int64) (0 : Int64) (0 : Int64) T21.heap Fp21 V25 Vg21) e29 rfl (by rw [hml]; rfl) pd_3 rfl (hb hby at_154) (Nat.le_of_ble_eq_true rfl) (Nat.le_of_ble_eq_true rfl) (Nat.le_of_ble_eq_true rfl) (Nat.le_of_ble_eq_true rfl) ?_
    intro T30 X30 e30
    refine Go.lload X30 hx (hb hby at_157) rfl rfl  ?_
    refine Go.lcmp X30 hx (hb hby at_159) rfl ?_
    refine Go.ifNo X30 hx (hb hby at_160) rfl ((if0 _ _).trans (teq ((lw_eq x2 x2).mpr (rfl : x2 = x2))).2) ?_
    refine Go.iconst X30 hx (hb hby at_163) rfl (1 : Int32) rfl ?_
    refine Go.goto X30 hx (hb hby at_164) rfl 168 (by decide) (by decide) ?_
    exact Go.retZ X30 hx (z' := (1 : Int32)) hret hlk (hb hby at_168) rfl (by decide) ⟨by first | rfl | simp [hc26], M22⟩ (Nat.le_of_ble_eq_true rfl) (Nat.le_of_ble_eq_true rfl)
  · refine Go.ifNo X21 hx (hb hby at_69) rfl ((if0 _ _).trans (feq hc26).1) ?_
    rcases own_rem3 (((x4).toUInt32 >>> ((8 : Int32) &&& 31).toUInt32).toInt32) with hk | hk | hk
    · rw [hk]
      refine Go.aload X21 hx (hb hby at_72) rfl rfl rfl ?_
      refine Go.iload X21 hx (hb hby at_74) rfl rfl  ?_
      refine Go.i2l X21 hx (hb hby at_76) rfl ?_
      show Go p e below _ T21 (mkF m 77 #[.val (.long x0), .second, .val (.long x1), .second, .val (.long x2), .second, .val (.long x3), .second, .val (.int x4), .val (.int (if ((((x4).toUInt32 >>> ((20 : Int32) &&& 31).toUInt32).toInt32) &&& (1 : Int32)) = 0 then 0 else 1 : Int32)), .val (.int (0 : Int32)), .val (.long x0), .second, .val (.long x1), .second, .val (.long x2), .second, .val (.ref b4)] [(.long (((0 : Int32)).toInt64)), (.ref b4)])
      rw [show (((0 : Int32)).toInt64) = (0 : Int64) from by decide]
      refine Go.lload X21 hx (hb hby at_77) rfl rfl  ?_
      refine Go.callV X21 hx hZ hown (wd 37 rfl) (wd 38 rfl) (notFace_of_selects (args := #[]) (mvT hZ (wd 40 rfl))) (wd 40 rfl) (wd 39 rfl) (wd 3 rfl) (wd 41 rfl) (by decide) [(.long (0 : Int64)), (.long x3)] [] E21 (lpS0 l Z a0 hw b4 b8 g12 k8 k12 x3 x0 x1 x2 (0 : Int64) (0 : Int64) (0 : Int64) T21.heap O23 q12 ne_b4_g12 ne_b8_g12 Fp21 V25 Vg21) rfl rfl (by rw [hml]; rfl) pd_4 rfl (hb hby at_79) (Nat.le_of_ble_eq_true rfl) (Nat.le_of_ble_eq_true rfl) (Nat.le_of_ble_eq_true rfl) (Nat.le_of_ble_eq_true rfl) ?_
      rintro vv31 T31 L31 X31 Q31
      obtain ⟨rfl, N31, K31, Vg31⟩ := Q31
      have M32 := Fr.app M22 N31
      have O33 := O23.keep K31 (allS q12 (all0))
      have E34 := E21.keep K31
      have V35 := V25.keep K31 (ninS ne_b8_g12 (nin0))
      have F36 := Fp21.keep K31 (ninS ne_b4_g12 (nin0))
      have F37 := Fs21.keep K31 (ninS ne_b4_g12 (nin0))
      refine Go.iload X31 hx (hb hby at_82) rfl rfl  ?_
      refine Go.ifNo X31 hx (hb hby at_84) rfl ((if0 _ _).trans (teq (by decide : (0 : Int32) = (0 : Int32))).2) ?_
      refine Go.lload X31 hx (hb hby at_87) rfl rfl  ?_
      refine Go.lstore X31 hx (hb hby at_89) rfl  #[.val (.long x0), .second, .val (.long x1), .second, .val (.long x2), .second, .val (.long x3), .second, .val (.int x4), .val (.int (if ((((x4).toUInt32 >>> ((20 : Int32) &&& 31).toUInt32).toInt32) &&& (1 : Int32)) = 0 then 0 else 1 : Int32)), .val (.int (0 : Int32)), .val (.long x3), .second, .val (.long x1), .second, .val (.long x2), .second, .val (.ref b4)] rfl ?_
      refine Go.goto X31 hx (hb hby at_91) rfl 111 (by decide) (by decide) ?_
      refine Go.aload X31 hx (hb hby at_111) rfl rfl rfl ?_
      refine Go.pureV X31 hx hZ hown (wd 25 rfl) (wd 26 rfl) (notFace_of_selects (args := #[]) (mvT hZ (wd 28 rfl))) (wd 28 rfl) (wd 27 rfl) (wd 3 rfl) (wd 29 rfl) (by decide) [] [] E34 (lpN l Z a0 hw b4 (3 : Int64) T31.heap F37) rfl rfl (by rw [hml]; rfl) pd_2 rfl (hb hby at_113) (Nat.le_of_ble_eq_true rfl) (Nat.le_of_ble_eq_true rfl) (Nat.le_of_ble_eq_true rfl) (Nat.le_of_ble_eq_true rfl) ?_
      intro T38 X38 e38
      refine Go.ldc2_w X38 hx hZ hown (wd 30 rfl) (hb hby at_116) rfl ?_
      refine Go.lcmp X38 hx (hb hby at_119) rfl ?_
      refine Go.ifYes X38 hx (hb hby at_120) rfl 125 ((if0 _ _).trans (teq ((lw_eq (3 : Int64) (3 : Int64)).mpr (by decide : (3 : Int64) = (3 : Int64)))).1) (by decide) (by decide) ?_
      refine Go.aload X38 hx (hb hby at_125) rfl rfl rfl ?_
      refine Go.lconst X38 hx (hb hby at_127) rfl (0 : Int64) rfl ?_
      refine Go.pureV X38 hx hZ hown (wd 31 rfl) (wd 32 rfl) (notFace_of_selects (args := #[]) (mvT hZ (wd 34 rfl))) (wd 34 rfl) (wd 33 rfl) (wd 3 rfl) (wd 35 rfl) (by decide) [(.long (0 : Int64))] [] E34 (lpG0 l Z a0 hw b4 b8 g12 k8 k12 x3 x1 x2 (0 : Int64) (0 : Int64) (0 : Int64) T31.heap F36 V35 Vg31) e38 rfl (by rw [hml]; rfl) pd_3 rfl (hb hby at_128) (Nat.le_of_ble_eq_true rfl) (Nat.le_of_ble_eq_true rfl) (Nat.le_of_ble_eq_true rfl) (Nat.le_of_ble_eq_true rfl) ?_
      intro T39 X39 e39
      refine Go.lload X39 hx (hb hby at_131) rfl rfl  ?_
      refine Go.lcmp X39 hx (hb hby at_133) rfl ?_
      refine Go.ifNo X39 hx (hb hby at_134) rfl ((if0 _ _).trans (teq ((lw_eq x3 x3).mpr (rfl : x3 = x3))).2) ?_
      refine Go.aload X39 hx (hb hby at_137) rfl rfl rfl ?_
      refine Go.lconst X39 hx (hb hby at_139) rfl (1 : Int64) rfl ?_
      refine Go.pureV X39 hx hZ hown (wd 31 rfl) (wd 32 rfl) (notFace_of_selects (args := #[]) (mvT hZ (wd 34 rfl))) (wd 34 rfl) (wd 33 rfl) (wd 3 rfl) (wd 35 rfl) (by decide) [(.long (1 : Int64))] [] E34 (lpG1 l Z a0 hw b4 b8 g12 k8 k12 x3 x1 x2 (0 : Int64) (0 : Int64) (0 : Int64) T31.heap F36 V35 Vg31) e39 rfl (by rw [hml]; rfl) pd_3 rfl (hb hby at_140) (Nat.le_of_ble_eq_true rfl) (Nat.le_of_ble_eq_true rfl) (Nat.le_of_ble_eq_true rfl) (Nat.le_of_ble_eq_true rfl) ?_
      intro T40 X40 e40
      refine Go.lload X40 hx (hb hby at_143) rfl rfl  ?_
      refine Go.lcmp X40 hx (hb hby at_145) rfl ?_
      refine Go.ifNo X40 hx (hb hby at_146) rfl ((if0 _ _).trans (teq ((lw_eq x1 x1).mpr (rfl : x1 = x1))).2) ?_
      refine Go.aload X40 hx (hb hby at_149) rfl rfl rfl ?_
      refine Go.ldc2_w X40 hx hZ hown (wd 36 rfl) (hb hby at_151) rfl ?_
      refine Go.pureV X40 hx hZ hown (wd 31 rfl) (wd 32 rfl) (notFace_of_selects (args := #[]) (mvT hZ (wd 34 rfl))) (wd 34 rfl) (wd 33 rfl) (wd 3 rfl) (wd 35 rfl) (by decide) [(.long (2 : Int64))] [] E34 (lpG2 l Z a0 hw b4 b8 g12 k8 k12 x3 x1 x2 (0 : Int64) (0 : Int64) (0 : Int64) T31.heap F36 V35 Vg31) e40 rfl (by rw [hml]; rfl) pd_3 rfl (hb hby at_154) (Nat.le_of_ble_eq_true rfl) (Nat.le_of_ble_eq_true rfl) (Nat.le_of_ble_eq_true rfl) (Nat.le_of_ble_eq_true rfl) ?_
      intro T41 X41 e41
      refine Go.lload X41 hx (hb hby at_157) rfl rfl  ?_
      refine Go.lcmp X41 hx (hb hby at_159) rfl ?_
      refine Go.ifNo X41 hx (hb hby at_160) rfl ((if0 _ _).trans (teq ((lw_eq x2 x2).mpr (rfl : x2 = x2))).2) ?_
      refine Go.iconst X41 hx (hb hby at_163) rfl (1 : Int32) rfl ?_
      refine Go.goto X41 hx (hb hby at_164) rfl 168 (by decide) (by decide) ?_
      exact Go.retZ X41 hx (z' := (1 : Int32)) hret hlk (hb hby at_168) rfl (by decide) ⟨by first | rfl | simp [hc26], M32⟩ (Nat.le_of_ble_eq_true rfl) (Nat.le_of_ble_eq_true rfl)
    · rw [hk]
      refine Go.aload X21 hx (hb hby at_72) rfl rfl rfl ?_
      refine Go.iload X21 hx (hb hby at_74) rfl rfl  ?_
      refine Go.i2l X21 hx (hb hby at_76) rfl ?_
      show Go p e below _ T21 (mkF m 77 #[.val (.long x0), .second, .val (.long x1), .second, .val (.long x2), .second, .val (.long x3), .second, .val (.int x4), .val (.int (if ((((x4).toUInt32 >>> ((20 : Int32) &&& 31).toUInt32).toInt32) &&& (1 : Int32)) = 0 then 0 else 1 : Int32)), .val (.int (1 : Int32)), .val (.long x0), .second, .val (.long x1), .second, .val (.long x2), .second, .val (.ref b4)] [(.long (((1 : Int32)).toInt64)), (.ref b4)])
      rw [show (((1 : Int32)).toInt64) = (1 : Int64) from by decide]
      refine Go.lload X21 hx (hb hby at_77) rfl rfl  ?_
      refine Go.callV X21 hx hZ hown (wd 37 rfl) (wd 38 rfl) (notFace_of_selects (args := #[]) (mvT hZ (wd 40 rfl))) (wd 40 rfl) (wd 39 rfl) (wd 3 rfl) (wd 41 rfl) (by decide) [(.long (1 : Int64)), (.long x3)] [] E21 (lpS1 l Z a0 hw b4 b8 g12 k8 k12 x3 x0 x1 x2 (0 : Int64) (0 : Int64) (0 : Int64) T21.heap O23 q12 ne_b4_g12 ne_b8_g12 Fp21 V25 Vg21) rfl rfl (by rw [hml]; rfl) pd_4 rfl (hb hby at_79) (Nat.le_of_ble_eq_true rfl) (Nat.le_of_ble_eq_true rfl) (Nat.le_of_ble_eq_true rfl) (Nat.le_of_ble_eq_true rfl) ?_
      rintro vv42 T42 L42 X42 Q42
      obtain ⟨rfl, N42, K42, Vg42⟩ := Q42
      have M43 := Fr.app M22 N42
      have O44 := O23.keep K42 (allS q12 (all0))
      have E45 := E21.keep K42
      have V46 := V25.keep K42 (ninS ne_b8_g12 (nin0))
      have F47 := Fp21.keep K42 (ninS ne_b4_g12 (nin0))
      have F48 := Fs21.keep K42 (ninS ne_b4_g12 (nin0))
      refine Go.iload X42 hx (hb hby at_82) rfl rfl  ?_
      refine Go.ifYes X42 hx (hb hby at_84) rfl 94 ((if0 _ _).trans (feq (by decide : ¬ ((1 : Int32) = (0 : Int32)))).2) (by decide) (by decide) ?_
      refine Go.iload X42 hx (hb hby at_94) rfl rfl  ?_
      refine Go.iconst X42 hx (hb hby at_96) rfl (1 : Int32) rfl ?_
      refine Go.icmpNo X42 hx (hb hby at_97) rfl (teq (by decide : (1 : Int32) = (1 : Int32))).2 ?_
      refine Go.lload X42 hx (hb hby at_100) rfl rfl  ?_
      refine Go.lstore X42 hx (hb hby at_102) rfl  #[.val (.long x0), .second, .val (.long x1), .second, .val (.long x2), .second, .val (.long x3), .second, .val (.int x4), .val (.int (if ((((x4).toUInt32 >>> ((20 : Int32) &&& 31).toUInt32).toInt32) &&& (1 : Int32)) = 0 then 0 else 1 : Int32)), .val (.int (1 : Int32)), .val (.long x0), .second, .val (.long x3), .second, .val (.long x2), .second, .val (.ref b4)] rfl ?_
      refine Go.goto X42 hx (hb hby at_104) rfl 111 (by decide) (by decide) ?_
      refine Go.aload X42 hx (hb hby at_111) rfl rfl rfl ?_
      refine Go.pureV X42 hx hZ hown (wd 25 rfl) (wd 26 rfl) (notFace_of_selects (args := #[]) (mvT hZ (wd 28 rfl))) (wd 28 rfl) (wd 27 rfl) (wd 3 rfl) (wd 29 rfl) (by decide) [] [] E45 (lpN l Z a0 hw b4 (3 : Int64) T42.heap F48) rfl rfl (by rw [hml]; rfl) pd_2 rfl (hb hby at_113) (Nat.le_of_ble_eq_true rfl) (Nat.le_of_ble_eq_true rfl) (Nat.le_of_ble_eq_true rfl) (Nat.le_of_ble_eq_true rfl) ?_
      intro T49 X49 e49
      refine Go.ldc2_w X49 hx hZ hown (wd 30 rfl) (hb hby at_116) rfl ?_
      refine Go.lcmp X49 hx (hb hby at_119) rfl ?_
      refine Go.ifYes X49 hx (hb hby at_120) rfl 125 ((if0 _ _).trans (teq ((lw_eq (3 : Int64) (3 : Int64)).mpr (by decide : (3 : Int64) = (3 : Int64)))).1) (by decide) (by decide) ?_
      refine Go.aload X49 hx (hb hby at_125) rfl rfl rfl ?_
      refine Go.lconst X49 hx (hb hby at_127) rfl (0 : Int64) rfl ?_
      refine Go.pureV X49 hx hZ hown (wd 31 rfl) (wd 32 rfl) (notFace_of_selects (args := #[]) (mvT hZ (wd 34 rfl))) (wd 34 rfl) (wd 33 rfl) (wd 3 rfl) (wd 35 rfl) (by decide) [(.long (0 : Int64))] [] E45 (lpG0 l Z a0 hw b4 b8 g12 k8 k12 x0 x3 x2 (0 : Int64) (0 : Int64) (0 : Int64) T42.heap F47 V46 Vg42) e49 rfl (by rw [hml]; rfl) pd_3 rfl (hb hby at_128) (Nat.le_of_ble_eq_true rfl) (Nat.le_of_ble_eq_true rfl) (Nat.le_of_ble_eq_true rfl) (Nat.le_of_ble_eq_true rfl) ?_
      intro T50 X50 e50
      refine Go.lload X50 hx (hb hby at_131) rfl rfl  ?_
      refine Go.lcmp X50 hx (hb hby at_133) rfl ?_
      refine Go.ifNo X50 hx (hb hby at_134) rfl ((if0 _ _).trans (teq ((lw_eq x0 x0).mpr (rfl : x0 = x0))).2) ?_
      refine Go.aload X50 hx (hb hby at_137) rfl rfl rfl ?_
      refine Go.lconst X50 hx (hb hby at_139) rfl (1 : Int64) rfl ?_
      refine Go.pureV X50 hx hZ hown (wd 31 rfl) (wd 32 rfl) (notFace_of_selects (args := #[]) (mvT hZ (wd 34 rfl))) (wd 34 rfl) (wd 33 rfl) (wd 3 rfl) (wd 35 rfl) (by decide) [(.long (1 : Int64))] [] E45 (lpG1 l Z a0 hw b4 b8 g12 k8 k12 x0 x3 x2 (0 : Int64) (0 : Int64) (0 : Int64) T42.heap F47 V46 Vg42) e50 rfl (by rw [hml]; rfl) pd_3 rfl (hb hby at_140) (Nat.le_of_ble_eq_true rfl) (Nat.le_of_ble_eq_true rfl) (Nat.le_of_ble_eq_true rfl) (Nat.le_of_ble_eq_true rfl) ?_
      intro T51 X51 e51
      refine Go.lload X51 hx (hb hby at_143) rfl rfl  ?_
      refine Go.lcmp X51 hx (hb hby at_145) rfl ?_
      refine Go.ifNo X51 hx (hb hby at_146) rfl ((if0 _ _).trans (teq ((lw_eq x3 x3).mpr (rfl : x3 = x3))).2) ?_
      refine Go.aload X51 hx (hb hby at_149) rfl rfl rfl ?_
      refine Go.ldc2_w X51 hx hZ hown (wd 36 rfl) (hb hby at_151) rfl ?_
      refine Go.pureV X51 hx hZ hown (wd 31 rfl) (wd 32 rfl) (notFace_of_selects (args := #[]) (mvT hZ (wd 34 rfl))) (wd 34 rfl) (wd 33 rfl) (wd 3 rfl) (wd 35 rfl) (by decide) [(.long (2 : Int64))] [] E45 (lpG2 l Z a0 hw b4 b8 g12 k8 k12 x0 x3 x2 (0 : Int64) (0 : Int64) (0 : Int64) T42.heap F47 V46 Vg42) e51 rfl (by rw [hml]; rfl) pd_3 rfl (hb hby at_154) (Nat.le_of_ble_eq_true rfl) (Nat.le_of_ble_eq_true rfl) (Nat.le_of_ble_eq_true rfl) (Nat.le_of_ble_eq_true rfl) ?_
      intro T52 X52 e52
      refine Go.lload X52 hx (hb hby at_157) rfl rfl  ?_
      refine Go.lcmp X52 hx (hb hby at_159) rfl ?_
      refine Go.ifNo X52 hx (hb hby at_160) rfl ((if0 _ _).trans (teq ((lw_eq x2 x2).mpr (rfl : x2 = x2))).2) ?_
      refine Go.iconst X52 hx (hb hby at_163) rfl (1 : Int32) rfl ?_
      refine Go.goto X52 hx (hb hby at_164) rfl 168 (by decide) (by decide) ?_
      exact Go.retZ X52 hx (z' := (1 : Int32)) hret hlk (hb hby at_168) rfl (by decide) ⟨by first | rfl | simp [hc26], M43⟩ (Nat.le_of_ble_eq_true rfl) (Nat.le_of_ble_eq_true rfl)
    · rw [hk]
      refine Go.aload X21 hx (hb hby at_72) rfl rfl rfl ?_
      refine Go.iload X21 hx (hb hby at_74) rfl rfl  ?_
      refine Go.i2l X21 hx (hb hby at_76) rfl ?_
      show Go p e below _ T21 (mkF m 77 #[.val (.long x0), .second, .val (.long x1), .second, .val (.long x2), .second, .val (.long x3), .second, .val (.int x4), .val (.int (if ((((x4).toUInt32 >>> ((20 : Int32) &&& 31).toUInt32).toInt32) &&& (1 : Int32)) = 0 then 0 else 1 : Int32)), .val (.int (2 : Int32)), .val (.long x0), .second, .val (.long x1), .second, .val (.long x2), .second, .val (.ref b4)] [(.long (((2 : Int32)).toInt64)), (.ref b4)])
      rw [show (((2 : Int32)).toInt64) = (2 : Int64) from by decide]
      refine Go.lload X21 hx (hb hby at_77) rfl rfl  ?_
      refine Go.callV X21 hx hZ hown (wd 37 rfl) (wd 38 rfl) (notFace_of_selects (args := #[]) (mvT hZ (wd 40 rfl))) (wd 40 rfl) (wd 39 rfl) (wd 3 rfl) (wd 41 rfl) (by decide) [(.long (2 : Int64)), (.long x3)] [] E21 (lpS2 l Z a0 hw b4 b8 g12 k8 k12 x3 x0 x1 x2 (0 : Int64) (0 : Int64) (0 : Int64) T21.heap O23 q12 ne_b4_g12 ne_b8_g12 Fp21 V25 Vg21) rfl rfl (by rw [hml]; rfl) pd_4 rfl (hb hby at_79) (Nat.le_of_ble_eq_true rfl) (Nat.le_of_ble_eq_true rfl) (Nat.le_of_ble_eq_true rfl) (Nat.le_of_ble_eq_true rfl) ?_
      rintro vv53 T53 L53 X53 Q53
      obtain ⟨rfl, N53, K53, Vg53⟩ := Q53
      have M54 := Fr.app M22 N53
      have O55 := O23.keep K53 (allS q12 (all0))
      have E56 := E21.keep K53
      have V57 := V25.keep K53 (ninS ne_b8_g12 (nin0))
      have F58 := Fp21.keep K53 (ninS ne_b4_g12 (nin0))
      have F59 := Fs21.keep K53 (ninS ne_b4_g12 (nin0))
      refine Go.iload X53 hx (hb hby at_82) rfl rfl  ?_
      refine Go.ifYes X53 hx (hb hby at_84) rfl 94 ((if0 _ _).trans (feq (by decide : ¬ ((2 : Int32) = (0 : Int32)))).2) (by decide) (by decide) ?_
      refine Go.iload X53 hx (hb hby at_94) rfl rfl  ?_
      refine Go.iconst X53 hx (hb hby at_96) rfl (1 : Int32) rfl ?_
      refine Go.icmpYes X53 hx (hb hby at_97) rfl 107 (feq (by decide : ¬ ((2 : Int32) = (1 : Int32)))).2 (by decide) (by decide) ?_
      refine Go.lload X53 hx (hb hby at_107) rfl rfl  ?_
      refine Go.lstore X53 hx (hb hby at_109) rfl  #[.val (.long x0), .second, .val (.long x1), .second, .val (.long x2), .second, .val (.long x3), .second, .val (.int x4), .val (.int (if ((((x4).toUInt32 >>> ((20 : Int32) &&& 31).toUInt32).toInt32) &&& (1 : Int32)) = 0 then 0 else 1 : Int32)), .val (.int (2 : Int32)), .val (.long x0), .second, .val (.long x1), .second, .val (.long x3), .second, .val (.ref b4)] rfl ?_
      refine Go.aload X53 hx (hb hby at_111) rfl rfl rfl ?_
      refine Go.pureV X53 hx hZ hown (wd 25 rfl) (wd 26 rfl) (notFace_of_selects (args := #[]) (mvT hZ (wd 28 rfl))) (wd 28 rfl) (wd 27 rfl) (wd 3 rfl) (wd 29 rfl) (by decide) [] [] E56 (lpN l Z a0 hw b4 (3 : Int64) T53.heap F59) rfl rfl (by rw [hml]; rfl) pd_2 rfl (hb hby at_113) (Nat.le_of_ble_eq_true rfl) (Nat.le_of_ble_eq_true rfl) (Nat.le_of_ble_eq_true rfl) (Nat.le_of_ble_eq_true rfl) ?_
      intro T60 X60 e60
      refine Go.ldc2_w X60 hx hZ hown (wd 30 rfl) (hb hby at_116) rfl ?_
      refine Go.lcmp X60 hx (hb hby at_119) rfl ?_
      refine Go.ifYes X60 hx (hb hby at_120) rfl 125 ((if0 _ _).trans (teq ((lw_eq (3 : Int64) (3 : Int64)).mpr (by decide : (3 : Int64) = (3 : Int64)))).1) (by decide) (by decide) ?_
      refine Go.aload X60 hx (hb hby at_125) rfl rfl rfl ?_
      refine Go.lconst X60 hx (hb hby at_127) rfl (0 : Int64) rfl ?_
      refine Go.pureV X60 hx hZ hown (wd 31 rfl) (wd 32 rfl) (notFace_of_selects (args := #[]) (mvT hZ (wd 34 rfl))) (wd 34 rfl) (wd 33 rfl) (wd 3 rfl) (wd 35 rfl) (by decide) [(.long (0 : Int64))] [] E56 (lpG0 l Z a0 hw b4 b8 g12 k8 k12 x0 x1 x3 (0 : Int64) (0 : Int64) (0 : Int64) T53.heap F58 V57 Vg53) e60 rfl (by rw [hml]; rfl) pd_3 rfl (hb hby at_128) (Nat.le_of_ble_eq_true rfl) (Nat.le_of_ble_eq_true rfl) (Nat.le_of_ble_eq_true rfl) (Nat.le_of_ble_eq_true rfl) ?_
      intro T61 X61 e61
      refine Go.lload X61 hx (hb hby at_131) rfl rfl  ?_
      refine Go.lcmp X61 hx (hb hby at_133) rfl ?_
      refine Go.ifNo X61 hx (hb hby at_134) rfl ((if0 _ _).trans (teq ((lw_eq x0 x0).mpr (rfl : x0 = x0))).2) ?_
      refine Go.aload X61 hx (hb hby at_137) rfl rfl rfl ?_
      refine Go.lconst X61 hx (hb hby at_139) rfl (1 : Int64) rfl ?_
      refine Go.pureV X61 hx hZ hown (wd 31 rfl) (wd 32 rfl) (notFace_of_selects (args := #[]) (mvT hZ (wd 34 rfl))) (wd 34 rfl) (wd 33 rfl) (wd 3 rfl) (wd 35 rfl) (by decide) [(.long (1 : Int64))] [] E56 (lpG1 l Z a0 hw b4 b8 g12 k8 k12 x0 x1 x3 (0 : Int64) (0 : Int64) (0 : Int64) T53.heap F58 V57 Vg53) e61 rfl (by rw [hml]; rfl) pd_3 rfl (hb hby at_140) (Nat.le_of_ble_eq_true rfl) (Nat.le_of_ble_eq_true rfl) (Nat.le_of_ble_eq_true rfl) (Nat.le_of_ble_eq_true rfl) ?_
      intro T62 X62 e62
      refine Go.lload X62 hx (hb hby at_143) rfl rfl  ?_
      refine Go.lcmp X62 hx (hb hby at_145) rfl ?_
      refine Go.ifNo X62 hx (hb hby at_146) rfl ((if0 _ _).trans (teq ((lw_eq x1 x1).mpr (rfl : x1 = x1))).2) ?_
      refine Go.aload X62 hx (hb hby at_149) rfl rfl rfl ?_
      refine Go.ldc2_w X62 hx hZ hown (wd 36 rfl) (hb hby at_151) rfl ?_
      refine Go.pureV X62 hx hZ hown (wd 31 rfl) (wd 32 rfl) (notFace_of_selects (args := #[]) (mvT hZ (wd 34 rfl))) (wd 34 rfl) (wd 33 rfl) (wd 3 rfl) (wd 35 rfl) (by decide) [(.long (2 : Int64))] [] E56 (lpG2 l Z a0 hw b4 b8 g12 k8 k12 x0 x1 x3 (0 : Int64) (0 : Int64) (0 : Int64) T53.heap F58 V57 Vg53) e62 rfl (by rw [hml]; rfl) pd_3 rfl (hb hby at_154) (Nat.le_of_ble_eq_true rfl) (Nat.le_of_ble_eq_true rfl) (Nat.le_of_ble_eq_true rfl) (Nat.le_of_ble_eq_true rfl) ?_
      intro T63 X63 e63
      refine Go.lload X63 hx (hb hby at_157) rfl rfl  ?_
      refine Go.lcmp X63 hx (hb hby at_159) rfl ?_
      refine Go.ifNo X63 hx (hb hby at_160) rfl ((if0 _ _).trans (teq ((lw_eq x3 x3).mpr (rfl : x3 = x3))).2) ?_
      refine Go.iconst X63 hx (hb hby at_163) rfl (1 : Int32) rfl ?_
      refine Go.goto X63 hx (hb hby at_164) rfl 168 (by decide) (by decide) ?_
      exact Go.retZ X63 hx (z' := (1 : Int32)) hret hlk (hb hby at_168) rfl (by decide) ⟨by first | rfl | simp [hc26], M54⟩ (Nat.le_of_ble_eq_true rfl) (Nat.le_of_ble_eq_true rfl)
set_option maxRecDepth 65536 in
set_option maxHeartbeats 40000000 in
theorem comes_1 {Post : Tables → Env → Array Value → State → Outcome → State → Prop} (hpost : ∀ tb e args s v u, (limb_1_1.after args s (.returned v) u = true ∧ limb_1_2.after args s (.returned v) u = true ∧ True) → FrameEnd s (.returned v) u (Jvm.fieldLocs frame_1_writes args s ++ Jvm.arrayLocs frame_1_arrays args s ++ Jvm.staticLocs frame_1_statics s) 16 131200 → Post tb e args s (.returned v) u) :
    ArmFor flags0 classFile x code maxLocals ret World_1 tables_1 room_1 Calls_1 rest_1 Pre_1 Post := by
  intro l hfl _ _ p e ha hc hk s m args below hf hA hF happ hP
  obtain ⟨hcalls, hrest, hpre⟩ := hP
  obtain ⟨-, -, -, hnamed, -, -, -, hat⟩ := (Spec.applies_iff hf).mp happ
  obtain ⟨hg, hn⟩ := and_e (Cond.before_iff.mp (show (Jvm.Cond.and given_1 narrow_1).before args s = true from hpre))
  obtain ⟨gi0, gi1⟩ := and_e hg
  obtain ⟨gi2, gi3⟩ := and_e gi1
  obtain ⟨gi4, gi5⟩ := and_e gi3
  obtain ⟨gi6, gi7⟩ := and_e gi5
  obtain ⟨gi8, gi9⟩ := and_e gi7
  obtain ⟨w0, w1, w2, w3, w4, rfl⟩ : ∃ w0 w1 w2 w3 w4 : Value, args = #[w0, w1, w2, w3, w4] := by
    have hs : args.size = 5 := by simpa [Cond.value, given_1] using gi0
    obtain ⟨L⟩ := args
    match L, hs with
    | [w0, w1, w2, w3, w4], _ => exact ⟨w0, w1, w2, w3, w4, rfl⟩
  have hw := fun d (hd : d ∈ tables_1) => atoms_spec (ws := Jvm.Cond.code x code maxLocals ret :: tables_1) hat d (List.mem_cons_of_mem _ hd)
  have wd : ∀ {d : Jvm.Cond} (i : Nat), tables_1[i]? = some d → d.before _ s = true := fun i q => hw _ (List.mem_of_getElem? q)
  have hfit : Fit s := fun {y c} hc i hi => by
    obtain ⟨ha, rfl⟩ := Array.getElem?_eq_some_iff.mp hc
    have q := List.all_eq_true.mp ((Array.all_eq_true_iff_forall_mem.mp hF) _ (Array.getElem_mem ha)) i (List.mem_range.mpr hi)
    simpa [Array.getElem?_eq_getElem hi] using q
  obtain ⟨i0, ei0⟩ := isL_v gi2
  obtain rfl : w0 = (.long i0) := Option.some.inj ei0
  obtain ⟨i1, ei1⟩ := isL_v gi4
  obtain rfl : w1 = (.long i1) := Option.some.inj ei1
  obtain ⟨i2, ei2⟩ := isL_v gi6
  obtain rfl : w2 = (.long i2) := Option.some.inj ei2
  obtain ⟨i3, ei3⟩ := isL_v gi8
  obtain rfl : w3 = (.long i3) := Option.some.inj ei3
  obtain ⟨i4, ei4⟩ := is_v gi9
  obtain rfl : w4 = (.int i4) := Option.some.inj ei4
  obtain ⟨n, o, h1, h2, h3, _, L, rfl, ⟨rfl, N⟩, hq⟩ := rm0 l s _ hw i0 i1 i2 i3 i4  tables_1 p e ha hc hk s m _ below hf ((Spec.applies_iff_loose hf).mp happ).1 ⟨rfl, State.Warmed39.refl s, rfl⟩ trivial
  refine ⟨n, _, h1, h2, h3, hpost _ _ _ _ _ _ ⟨Cond.after_iff.mpr rfl, Cond.after_iff.mpr (eq_i res_at (Term.int_eval (1)) rfl), trivial⟩ ⟨hq.1, hq.2.1, (hq.2.2.sift fun y hy => Or.inr (N y hy)).mono (by decide) (by decide)⟩⟩
theorem main_1_1 : Claimed_1_1 := comes_1 fun _ _ _ _ _ _ h hF => ⟨h.1, hF⟩
theorem main_1_2 : Claimed_1_2 := comes_1 fun _ _ _ _ _ _ h hF => ⟨h.2.1, hF⟩
end Jvm.Pilot.@@N@@
namespace Jvm.Pilot.@@N@@
open Jvm Jvm.ClassFile Sem Op Lib Jvm.Free Jvm.Stand Jvm.Pilot.@@N@@.Jvm.D
/-! MADE BY PROGRAM (witnessworld.py) out of the Statement's table words and the real class files: 11 classes; the members and pool entries that the words name. The judged class is class 1, her method 1. -/
namespace start1
open Jvm.ClassFile
def u (s : String) : CpInfo := .utf8 (stringToUtf16 s)
/-- a pool by its gaps: so many unusable entries, then the entry; so many at the end -/
def gap : Nat → List CpInfo → List CpInfo
  | 0, r => r
  | n + 1, r => .unusable :: gap n r
def poolList (es : List (Nat × CpInfo)) (last : Nat) : List CpInfo := es.foldr (fun e r => gap e.1 (e.2 :: r)) (gap last [])
def pool (es : List (Nat × CpInfo)) (last : Nat) : Array CpInfo := ⟨poolList es last⟩
def fileOf (pool : Array CpInfo) (this : Nat) (attrs : Array Attribute := #[]) (ms : Array MethodInfo := #[]) (fl : Nat := 33) (sup : Nat := 0) (ifs : Array Nat := #[]) (fds : Array FieldInfo := #[]) : ClassFile where
  minorVersion := 0
  majorVersion := 65
  constantPool := pool
  accessFlags := fl
  thisClass := this
  superClass := sup
  interfaces := ifs
  fields := fds
  methods := ms
  attributes := attrs
def plain (name : String) (sup : Option ClassId) : Class where
  name := name
  kind := .ordinary
  loader := none
  accessFlags := 33
  super := sup
  interfaces := #[]
  cf := none
  fields := #[]
  methods := #[]
  instanceTypes := #[]
  staticTypes := #[]
  resolved := #[]
  callSites := []
  init := .initialized
  statics := none
  mirror := none

def pool0 : Array CpInfo := pool [(5, u "<init>"), (0, u "()V"), (1, .class_ 10), (1, u "java/lang/Object")] 113

def k0c0 : Code := { maxStack := 0, maxLocals := 1, code := object_method_1_code, exceptionTable := #[], attributes := #[] }
def k0m0 : Method := { name := "<init>", desc := "()V", sig := { parameters := [], returnType := none }, accessFlags := 1, code := some k0c0 }
/-- java/lang/Object -/
def k0 : Class := { plain "java/lang/Object" none with
  accessFlags := 33
  interfaces := #[]
  cf := some (fileOf pool0 8 #[] #[{ accessFlags := 1, nameIndex := 5, descriptorIndex := 6, attributes := #[] }] 33 0 #[] #[])
  fields := #[]
  methods := #[k0m0]
  instanceTypes := #[]
  staticTypes := #[]
  resolved := Array.replicate 124 none
  statics := none }

def pool1 : Array CpInfo := pool [(2, .class_ 4), (0, .nameAndType 5 6), (0, u "java/lang/Object"), (0, u "<init>"), (0, u "()V"), (0, .integer 2147483647), (0, .class_ 9), (0, u "com/example/diktyo/diktyo/analysis/LongPages"), (0, .methodref 8 3), (0, .methodref 8 12), (0, .nameAndType 13 14), (0, u "add"), (0, u "(J)V"), (0, .methodref 8 16), (0, .nameAndType 17 18), (0, u "set"), (0, u "(JJ)V"), (0, .methodref 8 20), (0, .nameAndType 21 22), (0, u "size"), (0, u "()J"), (0, .long 3), (1, .methodref 8 26), (0, .nameAndType 27 28), (0, u "get"), (0, u "(J)J"), (0, .long 2), (1, .class_ 32), (0, u "com/example/diktyo/diktyo/analysis/LongPagesGetPinLaw"), (2, u "law"), (0, u "(JJJJI)Z")] 3

def k1m0 : Method := { name := "<init>", desc := "()V", sig := { parameters := [], returnType := none }, accessFlags := 1, code := none }
def k1c1 : Code := { maxStack := 5, maxLocals := 18, code := code, exceptionTable := #[], attributes := #[] }
def k1m1 : Method := { name := "law", desc := "(JJJJI)Z", sig := { parameters := [.long, .long, .long, .long, .int], returnType := some .boolean }, accessFlags := 9, code := some k1c1 }
/-- com/example/diktyo/diktyo/analysis/LongPagesGetPinLaw -/
def k1 : Class := { plain "com/example/diktyo/diktyo/analysis/LongPagesGetPinLaw" (some 0) with
  accessFlags := 49
  interfaces := #[]
  cf := some (fileOf pool1 31 #[] #[{ accessFlags := 1, nameIndex := 5, descriptorIndex := 6, attributes := #[] }, { accessFlags := 9, nameIndex := 35, descriptorIndex := 36, attributes := #[] }] 49 2 #[] #[])
  fields := #[]
  methods := #[k1m0, k1m1]
  instanceTypes := #[]
  staticTypes := #[]
  resolved := Array.replicate 40 none
  statics := none }

def pool2 : Array CpInfo := pool [(1, .class_ 2), (0, u "com/example/diktyo/diktyo/analysis/LongPages"), (0, .methodref 4 5), (0, .class_ 6), (0, .nameAndType 7 8), (0, u "java/lang/Object"), (0, u "<init>"), (0, u "()V"), (0, .class_ 10), (0, u "[J"), (0, .fieldref 1 12), (0, .nameAndType 13 14), (0, u "pages"), (0, u "[[J"), (0, .fieldref 1 16), (0, .nameAndType 17 18), (0, u "size"), (0, u "J"), (7, .integer 65536), (0, .integer 65535), (0, u "PAGE_BITS"), (0, u "I"), (2, u "PAGE_MASK"), (2, u "()J"), (0, u "add"), (0, u "(J)V"), (1, u "get"), (0, u "(J)J"), (0, u "set"), (0, u "(JJ)V")] 2

def k2c0 : Code := { maxStack := 2, maxLocals := 1, code := prog_14_method_1_code, exceptionTable := #[], attributes := #[] }
def k2m0 : Method := { name := "<init>", desc := "()V", sig := { parameters := [], returnType := none }, accessFlags := 0, code := some k2c0 }
def k2c1 : Code := { maxStack := 2, maxLocals := 1, code := prog_14_method_2_code, exceptionTable := #[], attributes := #[] }
def k2m1 : Method := { name := "size", desc := "()J", sig := { parameters := [], returnType := some .long }, accessFlags := 0, code := some k2c1 }
def k2c2 : Code := { maxStack := 5, maxLocals := 4, code := prog_14_method_3_code, exceptionTable := #[], attributes := #[] }
def k2m2 : Method := { name := "add", desc := "(J)V", sig := { parameters := [.long], returnType := none }, accessFlags := 0, code := some k2c2 }
def k2c3 : Code := { maxStack := 4, maxLocals := 3, code := prog_14_method_4_code, exceptionTable := #[], attributes := #[] }
def k2m3 : Method := { name := "get", desc := "(J)J", sig := { parameters := [.long], returnType := some .long }, accessFlags := 0, code := some k2c3 }
def k2c4 : Code := { maxStack := 4, maxLocals := 5, code := prog_14_method_5_code, exceptionTable := #[], attributes := #[] }
def k2m4 : Method := { name := "set", desc := "(JJ)V", sig := { parameters := [.long, .long], returnType := none }, accessFlags := 0, code := some k2c4 }
/-- com/example/diktyo/diktyo/analysis/LongPages -/
def k2 : Class := { plain "com/example/diktyo/diktyo/analysis/LongPages" (some 0) with
  accessFlags := 48
  interfaces := #[]
  cf := some (fileOf pool2 1 #[] #[{ accessFlags := 0, nameIndex := 7, descriptorIndex := 8, attributes := #[] }, { accessFlags := 0, nameIndex := 17, descriptorIndex := 35, attributes := #[] }, { accessFlags := 0, nameIndex := 36, descriptorIndex := 37, attributes := #[] }, { accessFlags := 0, nameIndex := 39, descriptorIndex := 40, attributes := #[] }, { accessFlags := 0, nameIndex := 41, descriptorIndex := 42, attributes := #[] }] 48 4 #[] #[{ accessFlags := 26, nameIndex := 28, descriptorIndex := 29, attributes := #[] }, { accessFlags := 26, nameIndex := 32, descriptorIndex := 29, attributes := #[] }, { accessFlags := 2, nameIndex := 13, descriptorIndex := 14, attributes := #[] }, { accessFlags := 2, nameIndex := 17, descriptorIndex := 18, attributes := #[] }])
  fields := #[{ name := "PAGE_BITS", type := .int, accessFlags := 26, slot := 0, constantValue := 0 }, { name := "PAGE_MASK", type := .int, accessFlags := 26, slot := 1, constantValue := 0 }, { name := "pages", type := (.array (.array .long)), accessFlags := 2, slot := 0, constantValue := 0 }, { name := "size", type := .long, accessFlags := 2, slot := 1, constantValue := 0 }]
  methods := #[k2m0, k2m1, k2m2, k2m3, k2m4]
  instanceTypes := #[(.array (.array .long)), .long]
  staticTypes := #[.int, .int]
  resolved := Array.replicate 45 none
  statics := none }

def pool3 : Array CpInfo := pool [(1, u "java/lang/Cloneable"), (0, .class_ 1), (0, u "java/lang/Object"), (0, .class_ 3)] 3

/-- java/lang/Cloneable -/
def k3 : Class := { plain "java/lang/Cloneable" (some 0) with
  accessFlags := 1537
  interfaces := #[]
  cf := some (fileOf pool3 2 #[] #[] 1537 4 #[] #[])
  fields := #[]
  methods := #[]
  instanceTypes := #[]
  staticTypes := #[]
  resolved := Array.replicate 8 none
  statics := none }

def pool4 : Array CpInfo := pool [(1, u "java/io/Serializable"), (0, .class_ 1), (0, u "java/lang/Object"), (0, .class_ 3)] 3

/-- java/io/Serializable -/
def k4 : Class := { plain "java/io/Serializable" (some 0) with
  accessFlags := 1537
  interfaces := #[]
  cf := some (fileOf pool4 2 #[] #[] 1537 4 #[] #[])
  fields := #[]
  methods := #[]
  instanceTypes := #[]
  staticTypes := #[]
  resolved := Array.replicate 8 none
  statics := none }

/-- the primitive byte -/
def k5 : Class := { plain "byte" none with kind := .primitive 'B', accessFlags := 0x411 }
/-- [B -/
def k6 : Class := { plain "[B" (some 0) with kind := .array 5 .byte, interfaces := #[3, 4], accessFlags := 1041 }

/-- the primitive int -/
def k7 : Class := { plain "int" none with kind := .primitive 'I', accessFlags := 0x411 }
/-- [I -/
def k8 : Class := { plain "[I" (some 0) with kind := .array 7 .int, interfaces := #[3, 4], accessFlags := 1041 }

/-- the primitive long -/
def k9 : Class := { plain "long" none with kind := .primitive 'J', accessFlags := 0x411 }
/-- [J -/
def k10 : Class := { plain "[J" (some 0) with kind := .array 9 .long, interfaces := #[3, 4], accessFlags := 1041 }

def k11 : Class := { plain "[[J" (some 0) with kind := .array 10 (.array .long), interfaces := #[3, 4], accessFlags := 1041 }
def heap : Heap := #[]
def classes : Array Class := #[k0, k1, k2, k3, k4, k5, k6, k7, k8, k9, k10, k11]
def interned : List (Array UInt16 × Addr) := []
def slotsUsed : Nat := 0
def theMethod : MethodId := ⟨1, 1⟩
def args0 : Array Value := #[.long 5, .long 6, .long 7, .long 8, .int 4]
def aboutOver (below : List Frame) : State where
  vm := { classes := classes, interned := interned.toArray }
  heap := heap
  slotsUsed := slotsUsed
  threads := #[{ frames := .invoking theMethod args0 :: below }]
def below0 : List Frame := [.native { method := ⟨0, 0⟩, args := #[] }]
def about1 : State := aboutOver below0
def p0 : Program := .bare "" "" ""
def e0 : Env := launch0.env 0 0 0
theorem w_frames : about1.frames = Frame.invoking theMethod args0 :: below0 := rfl
set_option maxRecDepth 65536 in
theorem w_args : argsFit about1.vm theMethod args0 = true := by decide +kernel
set_option maxRecDepth 65536 in
theorem w_heap : heapFits about1 = true := by decide +kernel
set_option maxRecDepth 65536 in
theorem w_runnable : about1.curStatus? = some .runnable := by decide +kernel
set_option maxRecDepth 65536 in
theorem w_alone : about1.alone = true := by decide +kernel
set_option maxRecDepth 65536 in
theorem w_named : about1.methodNamed? x = some theMethod := by decide +kernel
set_option maxRecDepth 65536 in
theorem w_hears : about1.hears theMethod below0 = true := by decide +kernel
set_option maxRecDepth 65536 in
theorem w_ripe : about1.ripe theMethod args0 below0 = true := by decide +kernel
theorem w_running : about1.status = .running := rfl
set_option maxRecDepth 65536 in
theorem w_room : about1.hasRoom e0.platform room_1 = true :=
  launch0.hasRoom_least _ room_1 (by decide +kernel) (by decide +kernel) (by decide +kernel) (by decide +kernel) (by decide +kernel) (by decide +kernel)
theorem allAtoms_all (ts : List Jvm.Cond) (a : Array Jvm.Value) (st : Jvm.State) : (allAtoms ts).before a st = ts.all (fun c => c.before a st) := by
  induction ts with
  | nil => rfl
  | cons c t ih =>
    show (Jvm.Cond.and c (allAtoms t)).before a st = _
    rw [Jvm.Cond.before_and, ih, List.all_cons]
def words1 : List Jvm.Cond := Jvm.Cond.code x code maxLocals ret :: tables_1
/-- a 'code' word, met by the world's own term for the bytes: nothing is compared byte by byte -/
theorem code_word {y : MethodName} {bytes : ByteArray} {mx : Nat} {rt : Option FieldType} {a : Array Value} {s : State} {m : MethodId} {meth : Method} {c : Code} (h1 : s.methodNamed? y = some m) (h2 : s.vm.method? m = some meth) (h3 : meth.code = some c) (h4 : c.code = bytes)
    (h5 : (c.maxLocals == mx && c.exceptionTable.isEmpty && decide (c.maxStack ≤ mostOperands) && decide (meth.sig.returnType = rt) && !meth.locks && decide (parseMethodDescriptor y.desc = some meth.sig)) = true) : (Jvm.Cond.code y bytes mx rt).before a s = true := by
  simp only [Bool.and_eq_true, beq_iff_eq, Bool.not_eq_true', decide_eq_true_eq] at h5
  obtain ⟨⟨⟨⟨⟨g1, g2⟩, g3⟩, g4⟩, g5⟩, g6⟩ := h5
  simp [Cond.before, Cond.holds, Cond.value, h1, h2, h3, h4, g1, g2, g3, g4, g5, g6]
def isCode : Jvm.Cond → Bool
  | .code _ _ _ _ => true
  | _ => false
theorem all_split {L : List Jvm.Cond} {P : Jvm.Cond → Bool} (h1 : L.all (fun c => isCode c || P c) = true) (h2 : ∀ c ∈ L.filter isCode, P c = true) : L.all P = true := by
  refine List.all_eq_true.mpr fun c hc => ?_
  have h := List.all_eq_true.mp h1 c hc
  rcases Bool.eq_false_or_eq_true (isCode c) with hi | hi
  · exact h2 c (List.mem_filter.mpr ⟨hc, hi⟩)
  · simpa [hi] using h
set_option maxRecDepth 65536 in
theorem w_c0 : (Jvm.Cond.code x code maxLocals ret).before args0 about1 = true := code_word (m := ⟨1, 1⟩) (meth := k1m1) (c := k1c1) (by decide +kernel) rfl rfl rfl (by decide +kernel)
set_option maxRecDepth 65536 in
theorem w_c1 : (Jvm.Cond.code ({ cls := "com/example/diktyo/diktyo/analysis/LongPages", name := "<init>", desc := "()V" } : Jvm.MethodName) prog_14_method_1_code (1 : Nat) (Option.none : Option Jvm.ClassFile.FieldType)).before args0 about1 = true := code_word (m := ⟨2, 0⟩) (meth := k2m0) (c := k2c0) (by decide +kernel) rfl rfl rfl (by decide +kernel)
set_option maxRecDepth 65536 in
theorem w_c2 : (Jvm.Cond.code ({ cls := "java/lang/Object", name := "<init>", desc := "()V" } : Jvm.MethodName) object_method_1_code (1 : Nat) (Option.none : Option Jvm.ClassFile.FieldType)).before args0 about1 = true := code_word (m := ⟨0, 0⟩) (meth := k0m0) (c := k0c0) (by decide +kernel) rfl rfl rfl (by decide +kernel)
set_option maxRecDepth 65536 in
theorem w_c3 : (Jvm.Cond.code ({ cls := "com/example/diktyo/diktyo/analysis/LongPages", name := "add", desc := "(J)V" } : Jvm.MethodName) prog_14_method_3_code (4 : Nat) (Option.none : Option Jvm.ClassFile.FieldType)).before args0 about1 = true := code_word (m := ⟨2, 2⟩) (meth := k2m2) (c := k2c2) (by decide +kernel) rfl rfl rfl (by decide +kernel)
set_option maxRecDepth 65536 in
theorem w_c4 : (Jvm.Cond.code ({ cls := "com/example/diktyo/diktyo/analysis/LongPages", name := "size", desc := "()J" } : Jvm.MethodName) prog_14_method_2_code (1 : Nat) (Option.some Jvm.ClassFile.FieldType.long)).before args0 about1 = true := code_word (m := ⟨2, 1⟩) (meth := k2m1) (c := k2c1) (by decide +kernel) rfl rfl rfl (by decide +kernel)
set_option maxRecDepth 65536 in
theorem w_c5 : (Jvm.Cond.code ({ cls := "com/example/diktyo/diktyo/analysis/LongPages", name := "get", desc := "(J)J" } : Jvm.MethodName) prog_14_method_4_code (3 : Nat) (Option.some Jvm.ClassFile.FieldType.long)).before args0 about1 = true := code_word (m := ⟨2, 3⟩) (meth := k2m3) (c := k2c3) (by decide +kernel) rfl rfl rfl (by decide +kernel)
set_option maxRecDepth 65536 in
theorem w_c6 : (Jvm.Cond.code ({ cls := "com/example/diktyo/diktyo/analysis/LongPages", name := "set", desc := "(JJ)V" } : Jvm.MethodName) prog_14_method_5_code (5 : Nat) (Option.none : Option Jvm.ClassFile.FieldType)).before args0 about1 = true := code_word (m := ⟨2, 4⟩) (meth := k2m4) (c := k2c4) (by decide +kernel) rfl rfl rfl (by decide +kernel)
def codes1 : List Jvm.Cond := [Jvm.Cond.code x code maxLocals ret, Jvm.Cond.code ({ cls := "com/example/diktyo/diktyo/analysis/LongPages", name := "<init>", desc := "()V" } : Jvm.MethodName) prog_14_method_1_code (1 : Nat) (Option.none : Option Jvm.ClassFile.FieldType), Jvm.Cond.code ({ cls := "java/lang/Object", name := "<init>", desc := "()V" } : Jvm.MethodName) object_method_1_code (1 : Nat) (Option.none : Option Jvm.ClassFile.FieldType), Jvm.Cond.code ({ cls := "com/example/diktyo/diktyo/analysis/LongPages", name := "add", desc := "(J)V" } : Jvm.MethodName) prog_14_method_3_code (4 : Nat) (Option.none : Option Jvm.ClassFile.FieldType), Jvm.Cond.code ({ cls := "com/example/diktyo/diktyo/analysis/LongPages", name := "size", desc := "()J" } : Jvm.MethodName) prog_14_method_2_code (1 : Nat) (Option.some Jvm.ClassFile.FieldType.long), Jvm.Cond.code ({ cls := "com/example/diktyo/diktyo/analysis/LongPages", name := "get", desc := "(J)J" } : Jvm.MethodName) prog_14_method_4_code (3 : Nat) (Option.some Jvm.ClassFile.FieldType.long), Jvm.Cond.code ({ cls := "com/example/diktyo/diktyo/analysis/LongPages", name := "set", desc := "(JJ)V" } : Jvm.MethodName) prog_14_method_5_code (5 : Nat) (Option.none : Option Jvm.ClassFile.FieldType)]
set_option maxRecDepth 65536 in
theorem codes_eq : words1.filter isCode = codes1 := rfl
theorem w_codes : ∀ c ∈ words1.filter isCode, c.before args0 about1 = true := by
  rw [codes_eq]
  intro c hc
  simp only [codes1, List.mem_cons, List.not_mem_nil, or_false] at hc
  rcases hc with rfl | rfl | rfl | rfl | rfl | rfl | rfl
  · exact w_c0
  · exact w_c1
  · exact w_c2
  · exact w_c3
  · exact w_c4
  · exact w_c5
  · exact w_c6
set_option maxRecDepth 65536 in
theorem w_t1 : (words1.take 24).all (fun c => isCode c || c.before args0 about1) = true := by decide +kernel
set_option maxRecDepth 65536 in
theorem w_t2 : (words1.drop 24).all (fun c => isCode c || c.before args0 about1) = true := by decide +kernel
theorem w_tables : (allAtoms (Jvm.Cond.code x code maxLocals ret :: tables_1)).before args0 about1 = true := by
  rw [allAtoms_all]
  show words1.all (fun c => c.before args0 about1) = true
  refine all_split ?_ w_codes
  rw [← List.take_append_drop 24 words1, List.all_append, w_t1, w_t2]
  rfl
set_option maxRecDepth 65536 in
theorem w_case : (Jvm.Cond.and given_1 narrow_1).before args0 about1 = true := by decide +kernel
theorem w_applies : (headSpec (Jvm.Cond.code x code maxLocals ret :: tables_1) room_1).applies x e0.platform about1 = true :=
  (Spec.applies_iff w_frames).mpr ⟨w_running, w_runnable, w_alone, w_named, w_hears, w_ripe, w_room, w_tables⟩
theorem atStart : AtStart classFile x code maxLocals ret World_1 tables_1 room_1 Calls_1 rest_1 Pre_1 launch0 p0 e0 about1 theMethod args0 below0 :=
  ⟨lists_1, trivial, launch0.admits_env _ _ _, launch0.least_env, fairChoices_fair.cas, fairChoices_fair.clock, w_frames, w_args, w_heap, w_applies, trivial, trivial, w_case⟩
end start1
theorem witness_1 : WitnessClaimed_1 := ⟨start1.p0, start1.e0, start1.about1, start1.theMethod, start1.args0, start1.below0, start1.atStart⟩
end Jvm.Pilot.@@N@@
