import JvmDerived
import JvmDerived.Pilot.@@N@@Statement
import JvmDerived.Pilot.@@N@@Code
set_option linter.unusedVariables false
set_option linter.unusedSimpArgs false
@@BLOCK:NumsL.lean.txt@@
namespace Jvm.Pilot.@@N@@
open Jvm Jvm.ClassFile Sem Op Lib Jvm.Free Jvm.Stand Jvm.LawKit Jvm.RoadKit Bundle Jvm.Pilot.@@N@@.Jvm.D
/-! OWN: the walks' own small calculus: 'Go' says that the run, standing in T with the top frame g, comes to an end that answers; every step carries a Go at the next place back to a Go at this one, so that a walk may fork and join. -/
section Own
variable {p : Program} {l : Launch} {e : Env} {R : Room} {s Z : State} {m : MethodId} {args a0 : Array Value} {below : List Frame} {meth : Method} {c : Code} {T : State} {locs : List Loc} {cells slots : Nat} {h : Heap} {P : Outcome → State → Prop}
/-- what a body must come to -/
def OwnEnd (Q : Option Value → Heap → List Loc → Prop) (s : State) (k n : Nat) (o : Outcome) (t : State) : Prop := ∃ v L, o = .returned v ∧ Q v t.heap L ∧ FrameEnd s o t L k n
def Go (p : Program) (e : Env) (below : List Frame) (P : Outcome → State → Prop) (T : State) (g : JFrame) : Prop := ∃ t o, Steps p.tables e below (T.setTop g) t ∧ t.status = .running ∧ Ended t below o ∧ P o t
theorem Go.of {T' : State} {g g' : JFrame} (k : ∀ t, Steps p.tables e below (T'.setTop g') t → Steps p.tables e below (T.setTop g) t) (K : Go p e below P T' g') : Go p e below P T g := by
  obtain ⟨t, o, h1, h2⟩ := K
  exact ⟨t, o, k t h1, h2⟩
theorem Go.joinI {g : JFrame} (X : Stand p l e R s m args below meth c T locs cells slots) (eT : T.heap = h) (v0 : Int32) (g1 : Int32 → JFrame) (K : (∀ (T' : State) (v : Int32), v = v0 → Stand p l e R s m args below meth c T' locs cells slots → T'.heap = h → Go p e below P T' (g1 v)) → Go p e below P T g)
    (J : ∀ T', Stand p l e R s m args below meth c T' locs cells slots → T'.heap = h → Go p e below P T' (g1 v0)) : Go p e below P T g := K fun T' v q X' e' => q ▸ J T' X' e'
theorem Go.joinJ {g : JFrame} (X : Stand p l e R s m args below meth c T locs cells slots) (eT : T.heap = h) (v0 : Int64) (g1 : Int64 → JFrame) (K : (∀ (T' : State) (v : Int64), v = v0 → Stand p l e R s m args below meth c T' locs cells slots → T'.heap = h → Go p e below P T' (g1 v)) → Go p e below P T g)
    (J : ∀ T', Stand p l e R s m args below meth c T' locs cells slots → T'.heap = h → Go p e below P T' (g1 v0)) : Go p e below P T g := K fun T' v q X' e' => q ▸ J T' X' e'
theorem Go.joinR {g : JFrame} (X : Stand p l e R s m args below meth c T locs cells slots) (eT : T.heap = h) (v0 : Addr) (g1 : Addr → JFrame) (K : (∀ (T' : State) (v : Addr), v = v0 → Stand p l e R s m args below meth c T' locs cells slots → T'.heap = h → Go p e below P T' (g1 v)) → Go p e below P T g)
    (J : ∀ T', Stand p l e R s m args below meth c T' locs cells slots → T'.heap = h → Go p e below P T' (g1 v0)) : Go p e below P T g := K fun T' v q X' e' => q ▸ J T' X' e'
theorem Go.cast {g g' : JFrame} (q : g = g') (K : Go p e below P T g') : Go p e below P T g := q ▸ K
theorem Go.leave (X : Stand p l e R s m args below meth c T locs cells slots) {g : JFrame} {v : Option Value} (hv : meth.sig.returnType = none → v = none) (hlk : meth.locks = false) {Q : Option Value → Heap → List Loc → Prop} {k n : Nat} (hc : cells ≤ k) (hs : slots ≤ n) (hQ : Q v T.heap locs)
    (st : ∀ fs, (∀ (f : JFrame) (acts : List Action), f.method = m → f.locked = none → f.entered = [] → (doReturn e (T.setTop f) acts v).1 = T.setFrames fs) → Steps p.tables e below (T.setTop g) (T.setFrames fs)) : Go p e below (OwnEnd Q s k n) T g := by
  obtain ⟨fs, hr, hrun, hended, hW, hsame⟩ := X.leave hv hlk
  exact ⟨_, _, st fs hr, hrun, hended, _, _, rfl, hQ, ⟨_, rfl⟩, hW, hsame.mono hc hs⟩
theorem Go.retZ (X : Stand p l e R s m args below meth c T locs cells slots) (hx : p.tables.exec = Jvm.exec) {pc pc0 : Nat} {Ls : Array Slot} {z z' : Int32} {rest : List Value} (hret : meth.sig.returnType = some .boolean) (hlk : meth.locks = false) (hd : decode c.code pc0 = .ok (.ireturn, 1)) (hpc : pc = pc0) {Q : Option Value → Heap → List Loc → Prop} {k n : Nat}
    (hz : z &&& 1 = z') (hQ : Q (some (.int z')) T.heap locs) (hc : cells ≤ k) (hs : slots ≤ n) : Go p e below (OwnEnd Q s k n) T (mkF m pc Ls (.int z :: rest)) := by
  subst hz hpc
  exact Go.leave X (v := some (.int (nar .boolean z))) (fun q => by rw [hret] at q; cases q) hlk hc hs hQ fun fs hr => retN X hx (t := .boolean) hret (by simp) hd hr
theorem Go.retW (X : Stand p l e R s m args below meth c T locs cells slots) (hx : p.tables.exec = Jvm.exec) {pc pc0 : Nat} {Ls : Array Slot} {w : Value} {t : FieldType} {i : Instr} {rest : List Value} (hret : meth.sig.returnType = some t) (hlk : meth.locks = false) (hn : narrow t w = w)
    (hi : (i = .ireturn ∧ (t = .int ∨ t = .boolean ∨ t = .byte ∨ t = .char ∨ t = .short) ∧ ∃ z, w = .int z) ∨ (i = .lreturn ∧ t = .long ∧ ∃ z, w = .long z) ∨ (i = .dreturn ∧ t = .double ∧ ∃ z, w = .double z) ∨ (i = .freturn ∧ t = .float ∧ ∃ z, w = .float z) ∨ (i = .areturn ∧ t.isReference = true ∧ w.isRef = true))
    (hd : decode c.code pc0 = .ok (i, 1)) (hpc : pc = pc0) {Q : Option Value → Heap → List Loc → Prop} {k n : Nat} (hQ : Q (some w) T.heap locs) (hc : cells ≤ k) (hs : slots ≤ n) : Go p e below (OwnEnd Q s k n) T (mkF m pc Ls (w :: rest)) := by
  subst hpc
  exact Go.leave X (v := some w) (fun q => by rw [hret] at q; cases q) hlk hc hs hQ fun fs hr => retOut X hx hret hn hi hd hr
theorem Go.retI (X : Stand p l e R s m args below meth c T locs cells slots) (hx : p.tables.exec = Jvm.exec) {pc pc0 : Nat} {Ls : Array Slot} {z : Int32} {rest : List Value} (hret : meth.sig.returnType = some .int) (hlk : meth.locks = false) (hd : decode c.code pc0 = .ok (.ireturn, 1)) (hpc : pc = pc0) {Q : Option Value → Heap → List Loc → Prop} {k n : Nat}
    (hQ : Q (some (.int z)) T.heap locs) (hc : cells ≤ k) (hs : slots ≤ n) : Go p e below (OwnEnd Q s k n) T (mkF m pc Ls (.int z :: rest)) := Go.retW X hx hret hlk rfl (Or.inl ⟨rfl, Or.inl rfl, _, rfl⟩) hd hpc hQ hc hs
theorem Go.retJ (X : Stand p l e R s m args below meth c T locs cells slots) (hx : p.tables.exec = Jvm.exec) {pc pc0 : Nat} {Ls : Array Slot} {z : Int64} {rest : List Value} (hret : meth.sig.returnType = some .long) (hlk : meth.locks = false) (hd : decode c.code pc0 = .ok (.lreturn, 1)) (hpc : pc = pc0) {Q : Option Value → Heap → List Loc → Prop} {k n : Nat}
    (hQ : Q (some (.long z)) T.heap locs) (hc : cells ≤ k) (hs : slots ≤ n) : Go p e below (OwnEnd Q s k n) T (mkF m pc Ls (.long z :: rest)) := Go.retW X hx hret hlk rfl (Or.inr (Or.inl ⟨rfl, rfl, _, rfl⟩)) hd hpc hQ hc hs
theorem Go.retA (X : Stand p l e R s m args below meth c T locs cells slots) (hx : p.tables.exec = Jvm.exec) {pc pc0 : Nat} {Ls : Array Slot} {w : Value} {t : FieldType} {rest : List Value} (hret : meth.sig.returnType = some t) (hlk : meth.locks = false) (ht : t.isReference = true) (hw : w.isRef = true) (hd : decode c.code pc0 = .ok (.areturn, 1)) (hpc : pc = pc0) {Q : Option Value → Heap → List Loc → Prop} {k n : Nat}
    (hQ : Q (some w) T.heap locs) (hc : cells ≤ k) (hs : slots ≤ n) : Go p e below (OwnEnd Q s k n) T (mkF m pc Ls (w :: rest)) := by
  refine Go.retW X hx hret hlk ?_ (Or.inr (Or.inr (Or.inr (Or.inr ⟨rfl, ht, hw⟩)))) hd hpc hQ hc hs
  rcases ref_cases hw with rfl | ⟨a, rfl⟩ <;> cases t <;> first | rfl | (simp [FieldType.isReference] at ht)
theorem Go.retV (X : Stand p l e R s m args below meth c T locs cells slots) (hx : p.tables.exec = Jvm.exec) {pc pc0 : Nat} {Ls : Array Slot} (hret : meth.sig.returnType = none) (hlk : meth.locks = false) (hd : decode c.code pc0 = .ok (.return_, 1)) (hpc : pc = pc0) {Q : Option Value → Heap → List Loc → Prop} {k n : Nat}
    (hQ : Q none T.heap locs) (hc : cells ≤ k) (hs : slots ≤ n) : Go p e below (OwnEnd Q s k n) T (mkF m pc Ls []) := by
  subst hpc
  exact Go.leave X (v := none) (fun _ => rfl) hlk hc hs hQ fun fs hr => X.returnOut hx hret hd hr
/-- a contract of a body: called on these arguments and this heap -/
def Ctr (l : Launch) (Z : State) (y : MethodName) (code : ByteArray) (mx : Nat) (ret : Option FieldType) (Rm : Room) (as' : Array Value) (h : Heap) (Q : Option Value → Heap → List Loc → Prop) : Prop :=
  ∀ ws : List Cond, MetFree l y (head1 (Cond.code y code mx ret :: ws) Rm) (fun a U => a = as' ∧ Z.Warmed39 U.vm ∧ U.heap = h) (fun _ _ _ _ _ => True) (fun _ U o U' => OwnEnd Q U Rm.cells Rm.slots o U')
theorem Ctr.of {y : MethodName} {code : ByteArray} {mx : Nat} {ret : Option FieldType} {Rm : Room} {as' : Array Value} {Q : Option Value → Heap → List Loc → Prop} (hp : plainFor y = true)
    (body : ∀ (p : Program) (e : Env) (s : State) (m : MethodId) (below : List Frame) (meth : Method) (c : Code) (s₁ : State), p.tables.exec = Jvm.exec → c.code = code → c.maxLocals = mx → s.vm.findClass y.cls = some m.cls → meth.name = y.name → meth.sig.returnType = ret → meth.locks = false → Z.Warmed39 s.vm →
      Stand p l e Rm s m as' below meth c s₁ [] 0 0 → s₁.heap = h → Go p e below (OwnEnd Q s Rm.cells Rm.slots) s₁ (entryFrame m as' mx)) : Ctr l Z y code mx ret Rm as' h Q := by
  intro ws
  refine MetFree.of_bodySF hp hisR ?_
  intro p e s m args below meth c s₁ Bd hml hP hK
  obtain ⟨rfl, hZ, hh⟩ := hP
  exact body p e s m below meth c s₁ Bd.exec Bd.bytes hml (findClass_of_methodNamed Bd.named) (name_of_methodNamed Bd.named Bd.method).1 Bd.returns Bd.notSynchronized hZ (Stand.of_body Bd) (by rw [← hh, Bd.state]; rfl)
/-- a body that returns V, writes nothing and makes nothing -/
def Pur (l : Launch) (Z : State) (y : MethodName) (code : ByteArray) (mx : Nat) (ret : Option FieldType) (fr lo : Nat) (as' : Array Value) (h : Heap) (V : Option Value) : Prop :=
  Ctr l Z y code mx ret ({ frames := fr, cells := 0, slots := 0, locals := lo } : Room) as' h fun v h' L => v = V ∧ L = [] ∧ h' = h
theorem Go.callS (X : Stand p l e R s m args below meth c T locs cells slots) (hx : p.tables.exec = Jvm.exec) (hZ : Z.Warmed39 s.vm) {own : String} {index : Nat} {y : MethodName} {bytes : ByteArray} {maxL : Nat} {ret : Option FieldType} (hown : s.vm.findClass own = some m.cls)
    (w1 : (Cond.methodLink own index y).before a0 Z = true) (w2 : (Cond.static y).before a0 Z = true) (w3 : (Cond.initialized y.cls).before a0 Z = true) (w4 : (Cond.code y bytes maxL ret).before a0 Z = true) (hy : y.cls ≠ "java/lang/invoke/MethodHandle" ∧ y.cls ≠ "java/lang/invoke/VarHandle")
    {Rm : Room} {Q : Option Value → Heap → List Loc → Prop} (argsL rest : List Value) (C : Ctr l Z y bytes maxL ret Rm argsL.toArray h Q) (eT : T.heap = h) {pc : Nat} {Ls : Array Slot} {st : List Value} (hst : st = argsL.reverse ++ rest) (hsz : Ls.size = c.maxLocals) {ps : List FieldType} {r : Option FieldType} (hpd : parseMethodDescriptor y.desc = some ⟨ps, r⟩) (hln : argsL.length = ps.length)
    (hd : decode c.code pc = .ok (.invokestatic index, 3)) (hfr : Rm.frames + 1 ≤ R.frames) (hlo : (rest.map fun v => v.category).sum + (maxL + 11) + Rm.locals ≤ R.locals) (hc : cells + Rm.cells ≤ R.cells) (hs : slots + Rm.slots ≤ R.slots)
    (K : ∀ v T' L, Stand p l e R s m args below meth c T' (locs ++ L) (cells + Rm.cells) (slots + Rm.slots) → Q v T'.heap L → Go p e below P T' (mkF m (pc + 3) Ls (v.toList ++ rest))) : Go p e below P T (mkF m pc Ls st) := by
  subst hst
  obtain ⟨v, _, ⟨T', L', k', n'⟩, -, X', ⟨L, hQ, l1, l2, l3⟩, st⟩ := Jvm.LawKit.callS X hx (y := y) hown (mvT hZ w1) (mvT hZ w2) (mvT hZ w3) (mvT hZ w4) hy (backOf (W := (rest.map fun v => v.category).sum) (Q := Q) (C []) hZ w4 w3 hfr hlo) (g := mkF m pc Ls (argsL.reverse ++ rest)) rfl hsz (argsL := argsL) (rest := rest) (lenOf hpd hln) rfl (by show 2 * 0 + _ ≤ _; omega) hd (fun _ _ => ⟨rfl, eT, hc, hs⟩)
  dsimp only [Pt.U, Pt.locs, Pt.cells, Pt.slots] at X' l1 l2 l3 st hQ
  subst l1 l2 l3
  exact Go.of st (K v T' L X' hQ)
theorem Go.pureS (X : Stand p l e R s m args below meth c T locs cells slots) (hx : p.tables.exec = Jvm.exec) (hZ : Z.Warmed39 s.vm) {own : String} {index : Nat} {y : MethodName} {bytes : ByteArray} {maxL : Nat} {ret : Option FieldType} (hown : s.vm.findClass own = some m.cls)
    (w1 : (Cond.methodLink own index y).before a0 Z = true) (w2 : (Cond.static y).before a0 Z = true) (w3 : (Cond.initialized y.cls).before a0 Z = true) (w4 : (Cond.code y bytes maxL ret).before a0 Z = true) (hy : y.cls ≠ "java/lang/invoke/MethodHandle" ∧ y.cls ≠ "java/lang/invoke/VarHandle")
    {fr lo : Nat} {V : Option Value} (argsL rest : List Value) (C : Pur l Z y bytes maxL ret fr lo argsL.toArray h V) (eT : T.heap = h) {pc : Nat} {Ls : Array Slot} {st : List Value} (hst : st = argsL.reverse ++ rest) (hsz : Ls.size = c.maxLocals) {ps : List FieldType} {r : Option FieldType} (hpd : parseMethodDescriptor y.desc = some ⟨ps, r⟩) (hln : argsL.length = ps.length)
    (hd : decode c.code pc = .ok (.invokestatic index, 3)) (hfr : fr + 1 ≤ R.frames) (hlo : (rest.map fun v => v.category).sum + (maxL + 11) + lo ≤ R.locals) (hc : cells ≤ R.cells) (hs : slots ≤ R.slots)
    (K : ∀ T', Stand p l e R s m args below meth c T' locs cells slots → T'.heap = h → Go p e below P T' (mkF m (pc + 3) Ls (V.toList ++ rest))) : Go p e below P T (mkF m pc Ls st) := by
  refine Go.callS X hx hZ hown w1 w2 w3 w4 hy argsL rest C eT hst hsz hpd hln hd hfr hlo hc hs ?_
  rintro v T' L X' ⟨rfl, rfl, e'⟩
  rw [List.append_nil] at X'
  exact K T' X' e'
theorem Go.callV (X : Stand p l e R s m args below meth c T locs cells slots) (hx : p.tables.exec = Jvm.exec) (hZ : Z.Warmed39 s.vm) {own C : String} {index : Nat} {y z : MethodName} {bytes : ByteArray} {maxL : Nat} {ret : Option FieldType} (hown : s.vm.findClass own = some m.cls)
    (w1 : (Cond.methodLink own index y).before a0 Z = true) (w2 : (Cond.declares y).before a0 Z = true) (hnf : NotFace s y) (w3 : (Cond.selects C y z).before a0 Z = true) (w4 : (Cond.instanceMethod z).before a0 Z = true) (w5 : (Cond.initialized z.cls).before a0 Z = true) (w6 : (Cond.code z bytes maxL ret).before a0 Z = true) (hy : y.cls ≠ "java/lang/invoke/MethodHandle" ∧ y.cls ≠ "java/lang/invoke/VarHandle")
    {Rm : Room} {Q : Option Value → Heap → List Loc → Prop} {b : Addr} (argsL rest : List Value) (E : Exa Z h b C) (Ct : Ctr l Z z bytes maxL ret Rm (.ref b :: argsL).toArray h Q) (eT : T.heap = h) {pc : Nat} {Ls : Array Slot} {st : List Value} (hst : st = argsL.reverse ++ .ref b :: rest) (hsz : Ls.size = c.maxLocals) {ps : List FieldType} {r : Option FieldType} (hpd : parseMethodDescriptor y.desc = some ⟨ps, r⟩) (hln : argsL.length = ps.length)
    (hd : decode c.code pc = .ok (.invokevirtual index, 3)) (hfr : Rm.frames + 1 ≤ R.frames) (hlo : (rest.map fun v => v.category).sum + (maxL + 11) + Rm.locals ≤ R.locals) (hc : cells + Rm.cells ≤ R.cells) (hs : slots + Rm.slots ≤ R.slots)
    (K : ∀ v T' L, Stand p l e R s m args below meth c T' (locs ++ L) (cells + Rm.cells) (slots + Rm.slots) → Q v T'.heap L → Go p e below P T' (mkF m (pc + 3) Ls (v.toList ++ rest))) : Go p e below P T (mkF m pc Ls st) := by
  subst hst
  obtain ⟨cq, kq, q1, q2, q3⟩ := isOf hZ eT E
  obtain ⟨v, _, ⟨T', L', k', n'⟩, -, X', ⟨L, hQ, l1, l2, l3⟩, st⟩ := X.virtualBack hx (y := y) (z := z) hown (mvT hZ w1) (mvT hZ w2) hnf (mvT hZ w3) (mvT hZ w4) hy (backOf (W := (rest.map fun v => v.category).sum) (Q := Q) (Ct []) hZ w6 w5 hfr hlo) q1 q3 (g := mkF m pc Ls (argsL.reverse ++ .ref b :: rest)) rfl hsz (Steps.refl _) (argsL := argsL) (rest := rest) (lenOf hpd hln) rfl (by show 2 * 0 + _ ≤ _; omega) hd (fun _ _ => ⟨rfl, eT, hc, hs⟩)
  dsimp only [Pt.U, Pt.locs, Pt.cells, Pt.slots] at X' l1 l2 l3 st hQ
  subst l1 l2 l3
  exact Go.of (fun _ k => st.trans k) (K v T' L X' hQ)
theorem Go.pureV (X : Stand p l e R s m args below meth c T locs cells slots) (hx : p.tables.exec = Jvm.exec) (hZ : Z.Warmed39 s.vm) {own C : String} {index : Nat} {y z : MethodName} {bytes : ByteArray} {maxL : Nat} {ret : Option FieldType} (hown : s.vm.findClass own = some m.cls)
    (w1 : (Cond.methodLink own index y).before a0 Z = true) (w2 : (Cond.declares y).before a0 Z = true) (hnf : NotFace s y) (w3 : (Cond.selects C y z).before a0 Z = true) (w4 : (Cond.instanceMethod z).before a0 Z = true) (w5 : (Cond.initialized z.cls).before a0 Z = true) (w6 : (Cond.code z bytes maxL ret).before a0 Z = true) (hy : y.cls ≠ "java/lang/invoke/MethodHandle" ∧ y.cls ≠ "java/lang/invoke/VarHandle")
    {fr lo : Nat} {V : Option Value} {b : Addr} (argsL rest : List Value) (E : Exa Z h b C) (Ct : Pur l Z z bytes maxL ret fr lo (.ref b :: argsL).toArray h V) (eT : T.heap = h) {pc : Nat} {Ls : Array Slot} {st : List Value} (hst : st = argsL.reverse ++ .ref b :: rest) (hsz : Ls.size = c.maxLocals) {ps : List FieldType} {r : Option FieldType} (hpd : parseMethodDescriptor y.desc = some ⟨ps, r⟩) (hln : argsL.length = ps.length)
    (hd : decode c.code pc = .ok (.invokevirtual index, 3)) (hfr : fr + 1 ≤ R.frames) (hlo : (rest.map fun v => v.category).sum + (maxL + 11) + lo ≤ R.locals) (hc : cells ≤ R.cells) (hs : slots ≤ R.slots)
    (K : ∀ T', Stand p l e R s m args below meth c T' locs cells slots → T'.heap = h → Go p e below P T' (mkF m (pc + 3) Ls (V.toList ++ rest))) : Go p e below P T (mkF m pc Ls st) := by
  refine Go.callV X hx hZ hown w1 w2 hnf w3 w4 w5 w6 hy argsL rest E Ct eT hst hsz hpd hln hd hfr hlo hc hs ?_
  rintro v T' L X' ⟨rfl, rfl, e'⟩
  rw [List.append_nil] at X'
  exact K T' X' e'
theorem Go.callU (X : Stand p l e R s m args below meth c T locs cells slots) (hx : p.tables.exec = Jvm.exec) (hZ : Z.Warmed39 s.vm) {own C ow : String} {index : Nat} {y z : MethodName} {bytes : ByteArray} {maxL : Nat} {ret : Option FieldType} (hown : s.vm.findClass own = some m.cls)
    (w1 : (Cond.methodLink own index y).before a0 Z = true) (w2 : (Cond.sameMethod y.cls ow y.name y.desc).before a0 Z = true) (w2' : (Cond.declares ⟨ow, y.name, y.desc⟩).before a0 Z = true) (w3 : (Cond.selects C y z).before a0 Z = true) (w4 : (Cond.instanceMethod z).before a0 Z = true) (w5 : (Cond.initialized z.cls).before a0 Z = true) (w6 : (Cond.code z bytes maxL ret).before a0 Z = true) (hy : ow ≠ "java/lang/invoke/MethodHandle" ∧ ow ≠ "java/lang/invoke/VarHandle")
    {Rm : Room} {Q : Option Value → Heap → List Loc → Prop} {b : Addr} (argsL rest : List Value) (E : Exa Z h b C) (Ct : Ctr l Z z bytes maxL ret Rm (.ref b :: argsL).toArray h Q) (eT : T.heap = h) {pc : Nat} {Ls : Array Slot} {st : List Value} (hst : st = argsL.reverse ++ .ref b :: rest) (hsz : Ls.size = c.maxLocals) {ps : List FieldType} {r : Option FieldType} (hpd : parseMethodDescriptor y.desc = some ⟨ps, r⟩) (hln : argsL.length = ps.length)
    (hd : decode c.code pc = .ok (.invokevirtual index, 3)) (hfr : Rm.frames + 1 ≤ R.frames) (hlo : (rest.map fun v => v.category).sum + (maxL + 11) + Rm.locals ≤ R.locals) (hc : cells + Rm.cells ≤ R.cells) (hs : slots + Rm.slots ≤ R.slots)
    (K : ∀ v T' L, Stand p l e R s m args below meth c T' (locs ++ L) (cells + Rm.cells) (slots + Rm.slots) → Q v T'.heap L → Go p e below P T' (mkF m (pc + 3) Ls (v.toList ++ rest))) : Go p e below P T (mkF m pc Ls st) := by
  subst hst
  obtain ⟨cq, kq, q1, q2, q3⟩ := isOf hZ eT E
  obtain ⟨v, _, ⟨T', L', k', n'⟩, -, X', ⟨L, hQ, l1, l2, l3⟩, st⟩ := X.virtualBackUp hx (x := y) (y := z) (owner := ow) hown (mvT hZ w1) (mvT hZ w2) (mvT hZ w2') hy (mvT hZ w3) (mvT hZ w4) (backOf (W := (rest.map fun v => v.category).sum) (Q := Q) (Ct []) hZ w6 w5 hfr hlo) q1 q3 (g := mkF m pc Ls (argsL.reverse ++ .ref b :: rest)) rfl hsz (Steps.refl _) (argsL := argsL) (rest := rest) (lenOf hpd hln) rfl (by show 2 * 0 + _ ≤ _; omega) hd (fun _ _ => ⟨rfl, eT, hc, hs⟩)
  dsimp only [Pt.U, Pt.locs, Pt.cells, Pt.slots] at X' l1 l2 l3 st hQ
  subst l1 l2 l3
  exact Go.of (fun _ k => st.trans k) (K v T' L X' hQ)
theorem Go.pureU (X : Stand p l e R s m args below meth c T locs cells slots) (hx : p.tables.exec = Jvm.exec) (hZ : Z.Warmed39 s.vm) {own C ow : String} {index : Nat} {y z : MethodName} {bytes : ByteArray} {maxL : Nat} {ret : Option FieldType} (hown : s.vm.findClass own = some m.cls)
    (w1 : (Cond.methodLink own index y).before a0 Z = true) (w2 : (Cond.sameMethod y.cls ow y.name y.desc).before a0 Z = true) (w2' : (Cond.declares ⟨ow, y.name, y.desc⟩).before a0 Z = true) (w3 : (Cond.selects C y z).before a0 Z = true) (w4 : (Cond.instanceMethod z).before a0 Z = true) (w5 : (Cond.initialized z.cls).before a0 Z = true) (w6 : (Cond.code z bytes maxL ret).before a0 Z = true) (hy : ow ≠ "java/lang/invoke/MethodHandle" ∧ ow ≠ "java/lang/invoke/VarHandle")
    {fr lo : Nat} {V : Option Value} {b : Addr} (argsL rest : List Value) (E : Exa Z h b C) (Ct : Pur l Z z bytes maxL ret fr lo (.ref b :: argsL).toArray h V) (eT : T.heap = h) {pc : Nat} {Ls : Array Slot} {st : List Value} (hst : st = argsL.reverse ++ .ref b :: rest) (hsz : Ls.size = c.maxLocals) {ps : List FieldType} {r : Option FieldType} (hpd : parseMethodDescriptor y.desc = some ⟨ps, r⟩) (hln : argsL.length = ps.length)
    (hd : decode c.code pc = .ok (.invokevirtual index, 3)) (hfr : fr + 1 ≤ R.frames) (hlo : (rest.map fun v => v.category).sum + (maxL + 11) + lo ≤ R.locals) (hc : cells ≤ R.cells) (hs : slots ≤ R.slots)
    (K : ∀ T', Stand p l e R s m args below meth c T' locs cells slots → T'.heap = h → Go p e below P T' (mkF m (pc + 3) Ls (V.toList ++ rest))) : Go p e below P T (mkF m pc Ls st) := by
  refine Go.callU X hx hZ hown w1 w2 w2' w3 w4 w5 w6 hy argsL rest E Ct eT hst hsz hpd hln hd hfr hlo hc hs ?_
  rintro v T' L X' ⟨rfl, rfl, e'⟩
  rw [List.append_nil] at X'
  exact K T' X' e'
theorem Go.callI (X : Stand p l e R s m args below meth c T locs cells slots) (hx : p.tables.exec = Jvm.exec) (hZ : Z.Warmed39 s.vm) {own : String} {index : Nat} {y : MethodName} {bytes : ByteArray} {maxL : Nat} (hyn : y.name = "<init>") (hown : s.vm.findClass own = some m.cls)
    (w1 : (Cond.methodLink own index y).before a0 Z = true) (w2 : (Cond.instanceMethod y).before a0 Z = true) (w3 : (Cond.initialized y.cls).before a0 Z = true) (w4 : (Cond.code y bytes maxL none).before a0 Z = true) (hy : y.cls ≠ "java/lang/invoke/MethodHandle" ∧ y.cls ≠ "java/lang/invoke/VarHandle")
    {Rm : Room} {Q : Option Value → Heap → List Loc → Prop} {b : Addr} (argsL rest : List Value) (C : Ctr l Z y bytes maxL none Rm (.ref b :: argsL).toArray h Q) (eT : T.heap = h) {pc : Nat} {Ls : Array Slot} {st : List Value} (hst : st = argsL.reverse ++ .ref b :: rest) (hsz : Ls.size = c.maxLocals) {ps : List FieldType} {r : Option FieldType} (hpd : parseMethodDescriptor y.desc = some ⟨ps, r⟩) (hln : argsL.length = ps.length)
    (hd : decode c.code pc = .ok (.invokespecial index, 3)) (hfr : Rm.frames + 1 ≤ R.frames) (hlo : (rest.map fun v => v.category).sum + (maxL + 11) + Rm.locals ≤ R.locals) (hc : cells + Rm.cells ≤ R.cells) (hs : slots + Rm.slots ≤ R.slots)
    (K : ∀ v T' L, Stand p l e R s m args below meth c T' (locs ++ L) (cells + Rm.cells) (slots + Rm.slots) → Q v T'.heap L → Go p e below P T' (mkF m (pc + 3) Ls (v.toList ++ rest))) : Go p e below P T (mkF m pc Ls st) := by
  subst hst
  obtain ⟨v, _, ⟨T', L', k', n'⟩, -, X', ⟨L, hQ, l1, l2, l3⟩, st⟩ := X.specialBack hx (y := y) hyn hown (mvT hZ w1) (mvT hZ w2) (mvT hZ w4) hy (backOf (W := (rest.map fun v => v.category).sum) (Q := Q) (C []) hZ w4 w3 hfr hlo) (g := mkF m pc Ls (argsL.reverse ++ .ref b :: rest)) rfl hsz (Steps.refl _) (a := b) (argsL := argsL) (rest := rest) (lenOf hpd hln) rfl (by show 2 * 0 + _ ≤ _; omega) hd (fun _ _ => ⟨rfl, eT, hc, hs⟩)
  dsimp only [Pt.U, Pt.locs, Pt.cells, Pt.slots] at X' l1 l2 l3 st hQ
  subst l1 l2 l3
  exact Go.of (fun _ k => st.trans k) (K v T' L X' hQ)
end Own
theorem own_nf {args : Array Value} {s : State} {C : String} {y y' : MethodName} (hc : y.cls = y'.cls) (hsel : (Cond.selects C y' y').before args s = true) : NotFace s y := fun r0 h0 => by
  obtain ⟨c2, r2, m2, q1, q2, q3, q4, kP, hkP, hkPi⟩ := Cond.selects_spec hsel
  have e1 := findClass_of_methodNamed h0
  have e2 := findClass_of_methodNamed q3
  rw [hc] at e1
  have e3 : r0.cls = m2.cls := Option.some.inj (e1.symm.trans e2)
  exact ⟨kP, e3 ▸ hkP, hkPi⟩
section OwnWords
variable {args : Array Value} {s : State} {a b t i : Term} {v : Value}
theorem own_eqv (g : (Cond.eq a b).value args s none s [] = some true) (hb : b.eval args s none [] s = some v) : a.eval args s none [] s = some v := by
  cases ha : a.eval args s none [] s with
  | none => simp [Cond.value, ha] at g
  | some x => cases x <;> cases v <;> simp [Cond.value, ha, hb] at g ⊢ <;> exact g
theorem own_len {x : Addr} {cl : Cell} {ty : FieldType} {n : Int32} (A : Arr s s.heap x cl ty) (ht : t.eval args s none [] s = some (.ref x)) (g : (Term.length t).eval args s none [] s = some (.int n)) : cl.slots.size < 2 ^ 31 ∧ cl.slots.size.toInt32 = n := by
  have q := A.fin (Vm.Alike.refl _)
  by_cases hl : cl.slots.size < 2 ^ 31
  · refine ⟨hl, ?_⟩
    have e := len_f (args := args) (first := s) (o := none) (idx := []) ht q hl
    exact Value.int.inj (Option.some.inj (e.symm.trans g))
  · simp [Term.eval, ht, q, hl] at g
theorem own_elem {x : Addr} {cl : Cell} {ty : FieldType} {j : Int32} {k : Nat} (A : Arr s s.heap x cl ty) (ht : t.eval args s none [] s = some (.ref x)) (hk : j.toNatClampNeg = k) (g : (Term.elem t (.int j)).eval args s none [] s = some v) : cl.slots[k]? = some v := by
  have e := (elem_in (j := j) (a := .int j) g ht rfl A.1).2
  rw [hk] at e; exact e
end OwnWords
section OwnSteps
variable {p : Program} {l : Launch} {e : Env} {R : Room} {s Z : State} {m : MethodId} {args a0 : Array Value} {below : List Frame} {meth : Method} {c : Code} {T : State} {locs : List Loc} {cells slots : Nat} {h : Heap} {P : Outcome → State → Prop} {pc pc0 : Nat} {Ls : Array Slot} {st : List Value}
theorem Go.iload (X : Stand p l e R s m args below meth c T locs cells slots) (hx : p.tables.exec = Jvm.exec) {k : Nat} {v : Int32} (hd : decode c.code pc0 = .ok (.iload k, 2)) (hpc : pc = pc0) (hl : Ls[k]? = some (.val (.int v))) (K : Go p e below P T (mkF m (pc0 + 2) Ls (.int v :: st))) : Go p e below P T (mkF m pc Ls (st)) := by
  subst hpc
  exact Go.of (fun _ q => XS.iload X.here hx rfl hd hl q) K
theorem Go.iloadN (X : Stand p l e R s m args below meth c T locs cells slots) (hx : p.tables.exec = Jvm.exec) {k : Fin 4} {v : Int32} (hd : decode c.code pc0 = .ok (.iload_n k, 1)) (hpc : pc = pc0) (hl : Ls[k.val]? = some (.val (.int v))) (K : Go p e below P T (mkF m (pc0 + 1) Ls (.int v :: st))) : Go p e below P T (mkF m pc Ls (st)) := by
  subst hpc
  exact Go.of (fun _ q => XS.iloadN X.here hx rfl hd hl q) K
theorem Go.istore (X : Stand p l e R s m args below meth c T locs cells slots) (hx : p.tables.exec = Jvm.exec) {k : Nat} {v : Int32} (hd : decode c.code pc0 = .ok (.istore k, 2)) (hpc : pc = pc0) (l' : Array Slot) (hl : storeLocals Ls k (.int v) = some l') (K : Go p e below P T (mkF m (pc0 + 2) l' (st))) : Go p e below P T (mkF m pc Ls (.int v :: st)) := by
  subst hpc
  exact Go.of (fun _ q => XS.istore X.here hx rfl hd rfl hl q) K
theorem Go.istoreN (X : Stand p l e R s m args below meth c T locs cells slots) (hx : p.tables.exec = Jvm.exec) {k : Fin 4} {v : Int32} (hd : decode c.code pc0 = .ok (.istore_n k, 1)) (hpc : pc = pc0) (l' : Array Slot) (hl : storeLocals Ls k.val (.int v) = some l') (K : Go p e below P T (mkF m (pc0 + 1) l' (st))) : Go p e below P T (mkF m pc Ls (.int v :: st)) := by
  subst hpc
  exact Go.of (fun _ q => XS.istoreN X.here hx rfl hd rfl hl q) K
theorem Go.lload (X : Stand p l e R s m args below meth c T locs cells slots) (hx : p.tables.exec = Jvm.exec) {k : Nat} {v : Int64} (hd : decode c.code pc0 = .ok (.lload k, 2)) (hpc : pc = pc0) (hl : Ls[k]? = some (.val (.long v))) (K : Go p e below P T (mkF m (pc0 + 2) Ls (.long v :: st))) : Go p e below P T (mkF m pc Ls (st)) := by
  subst hpc
  exact Go.of (fun _ q => XS.lload X.here hx rfl hd hl q) K
theorem Go.lloadN (X : Stand p l e R s m args below meth c T locs cells slots) (hx : p.tables.exec = Jvm.exec) {k : Fin 4} {v : Int64} (hd : decode c.code pc0 = .ok (.lload_n k, 1)) (hpc : pc = pc0) (hl : Ls[k.val]? = some (.val (.long v))) (K : Go p e below P T (mkF m (pc0 + 1) Ls (.long v :: st))) : Go p e below P T (mkF m pc Ls (st)) := by
  subst hpc
  exact Go.of (fun _ q => XS.lloadN X.here hx rfl hd hl q) K
theorem Go.lstore (X : Stand p l e R s m args below meth c T locs cells slots) (hx : p.tables.exec = Jvm.exec) {k : Nat} {v : Int64} (hd : decode c.code pc0 = .ok (.lstore k, 2)) (hpc : pc = pc0) (l' : Array Slot) (hl : storeLocals Ls k (.long v) = some l') (K : Go p e below P T (mkF m (pc0 + 2) l' (st))) : Go p e below P T (mkF m pc Ls (.long v :: st)) := by
  subst hpc
  exact Go.of (fun _ q => XS.lstore X.here hx rfl hd rfl hl q) K
theorem Go.lstoreN (X : Stand p l e R s m args below meth c T locs cells slots) (hx : p.tables.exec = Jvm.exec) {k : Fin 4} {v : Int64} (hd : decode c.code pc0 = .ok (.lstore_n k, 1)) (hpc : pc = pc0) (l' : Array Slot) (hl : storeLocals Ls k.val (.long v) = some l') (K : Go p e below P T (mkF m (pc0 + 1) l' (st))) : Go p e below P T (mkF m pc Ls (.long v :: st)) := by
  subst hpc
  exact Go.of (fun _ q => XS.lstoreN X.here hx rfl hd rfl hl q) K
theorem Go.aload (X : Stand p l e R s m args below meth c T locs cells slots) (hx : p.tables.exec = Jvm.exec) {k : Nat} {v : Value} (hd : decode c.code pc0 = .ok (.aload k, 2)) (hpc : pc = pc0) (hl : Ls[k]? = some (.val v)) (hv : v.isRef = true) (K : Go p e below P T (mkF m (pc0 + 2) Ls (v :: st))) : Go p e below P T (mkF m pc Ls (st)) := by
  subst hpc
  exact Go.of (fun _ q => XS.aload X.here hx rfl hd hl hv q) K
theorem Go.aloadN (X : Stand p l e R s m args below meth c T locs cells slots) (hx : p.tables.exec = Jvm.exec) {k : Fin 4} {v : Value} (hd : decode c.code pc0 = .ok (.aload_n k, 1)) (hpc : pc = pc0) (hl : Ls[k.val]? = some (.val v)) (hv : v.isRef = true) (K : Go p e below P T (mkF m (pc0 + 1) Ls (v :: st))) : Go p e below P T (mkF m pc Ls (st)) := by
  subst hpc
  exact Go.of (fun _ q => XS.aloadN X.here hx rfl hd hl hv q) K
theorem Go.astore (X : Stand p l e R s m args below meth c T locs cells slots) (hx : p.tables.exec = Jvm.exec) {k : Nat} {v : Value} (hd : decode c.code pc0 = .ok (.astore k, 2)) (hpc : pc = pc0) (hv : v.isRef = true) (l' : Array Slot) (hl : storeLocals Ls k v = some l') (K : Go p e below P T (mkF m (pc0 + 2) l' (st))) : Go p e below P T (mkF m pc Ls (v :: st)) := by
  subst hpc
  exact Go.of (fun _ q => XS.astore X.here hx rfl hd rfl hv hl q) K
theorem Go.astoreN (X : Stand p l e R s m args below meth c T locs cells slots) (hx : p.tables.exec = Jvm.exec) {k : Fin 4} {v : Value} (hd : decode c.code pc0 = .ok (.astore_n k, 1)) (hpc : pc = pc0) (hv : v.isRef = true) (l' : Array Slot) (hl : storeLocals Ls k.val v = some l') (K : Go p e below P T (mkF m (pc0 + 1) l' (st))) : Go p e below P T (mkF m pc Ls (v :: st)) := by
  subst hpc
  exact Go.of (fun _ q => XS.astoreN X.here hx rfl hd rfl hv hl q) K
theorem Go.iconst (X : Stand p l e R s m args below meth c T locs cells slots) (hx : p.tables.exec = Jvm.exec) {i : Int} (hd : decode c.code pc0 = .ok (.iconst i, 1)) (hpc : pc = pc0) (v : Int32) (hv : Int32.ofInt i = v) (K : Go p e below P T (mkF m (pc0 + 1) Ls (.int v :: st))) : Go p e below P T (mkF m pc Ls (st)) := by
  subst hpc
  subst hv
  exact Go.of (fun _ q => XS.iconst X.here hx rfl hd q) K
theorem Go.bipush (X : Stand p l e R s m args below meth c T locs cells slots) (hx : p.tables.exec = Jvm.exec) {i : Int} (hd : decode c.code pc0 = .ok (.bipush i, 2)) (hpc : pc = pc0) (v : Int32) (hv : (Int8.ofInt i).toInt32 = v) (K : Go p e below P T (mkF m (pc0 + 2) Ls (.int v :: st))) : Go p e below P T (mkF m pc Ls (st)) := by
  subst hpc
  subst hv
  exact Go.of (fun _ q => XS.bipush X.here hx rfl hd q) K
theorem Go.sipush (X : Stand p l e R s m args below meth c T locs cells slots) (hx : p.tables.exec = Jvm.exec) {i : Int} (hd : decode c.code pc0 = .ok (.sipush i, 3)) (hpc : pc = pc0) (v : Int32) (hv : (Int16.ofInt i).toInt32 = v) (K : Go p e below P T (mkF m (pc0 + 3) Ls (.int v :: st))) : Go p e below P T (mkF m pc Ls (st)) := by
  subst hpc
  subst hv
  exact Go.of (fun _ q => XS.sipush X.here hx rfl hd q) K
theorem Go.lconst (X : Stand p l e R s m args below meth c T locs cells slots) (hx : p.tables.exec = Jvm.exec) {k : Fin 2} (hd : decode c.code pc0 = .ok (.lconst k, 1)) (hpc : pc = pc0) (v : Int64) (hv : Int64.ofNat k = v) (K : Go p e below P T (mkF m (pc0 + 1) Ls (.long v :: st))) : Go p e below P T (mkF m pc Ls (st)) := by
  subst hpc
  subst hv
  exact Go.of (fun _ q => XS.lconst X.here hx rfl hd q) K
theorem Go.aconstNull (X : Stand p l e R s m args below meth c T locs cells slots) (hx : p.tables.exec = Jvm.exec)  (hd : decode c.code pc0 = .ok (.aconst_null, 1)) (hpc : pc = pc0)  (K : Go p e below P T (mkF m (pc0 + 1) Ls (.null :: st))) : Go p e below P T (mkF m pc Ls (st)) := by
  subst hpc
  exact Go.of (fun _ q => XS.aconstNull X.here hx rfl hd q) K
theorem Go.iadd (X : Stand p l e R s m args below meth c T locs cells slots) (hx : p.tables.exec = Jvm.exec) {x y : Int32} (hd : decode c.code pc0 = .ok (.iadd, 1)) (hpc : pc = pc0)  (K : Go p e below P T (mkF m (pc0 + 1) Ls (.int (x + y) :: st))) : Go p e below P T (mkF m pc Ls (.int y :: .int x :: st)) := by
  subst hpc
  exact Go.of (fun _ q => XS.iadd X.here hx rfl hd rfl q) K
theorem Go.isub (X : Stand p l e R s m args below meth c T locs cells slots) (hx : p.tables.exec = Jvm.exec) {x y : Int32} (hd : decode c.code pc0 = .ok (.isub, 1)) (hpc : pc = pc0)  (K : Go p e below P T (mkF m (pc0 + 1) Ls (.int (x - y) :: st))) : Go p e below P T (mkF m pc Ls (.int y :: .int x :: st)) := by
  subst hpc
  exact Go.of (fun _ q => XS.isub X.here hx rfl hd rfl q) K
theorem Go.imul (X : Stand p l e R s m args below meth c T locs cells slots) (hx : p.tables.exec = Jvm.exec) {x y : Int32} (hd : decode c.code pc0 = .ok (.imul, 1)) (hpc : pc = pc0)  (K : Go p e below P T (mkF m (pc0 + 1) Ls (.int (x * y) :: st))) : Go p e below P T (mkF m pc Ls (.int y :: .int x :: st)) := by
  subst hpc
  exact Go.of (fun _ q => XS.imul X.here hx rfl hd rfl q) K
theorem Go.iand (X : Stand p l e R s m args below meth c T locs cells slots) (hx : p.tables.exec = Jvm.exec) {x y : Int32} (hd : decode c.code pc0 = .ok (.iand, 1)) (hpc : pc = pc0)  (K : Go p e below P T (mkF m (pc0 + 1) Ls (.int (x &&& y) :: st))) : Go p e below P T (mkF m pc Ls (.int y :: .int x :: st)) := by
  subst hpc
  exact Go.of (fun _ q => XS.iand X.here hx rfl hd rfl q) K
theorem Go.ior (X : Stand p l e R s m args below meth c T locs cells slots) (hx : p.tables.exec = Jvm.exec) {x y : Int32} (hd : decode c.code pc0 = .ok (.ior, 1)) (hpc : pc = pc0)  (K : Go p e below P T (mkF m (pc0 + 1) Ls (.int (x ||| y) :: st))) : Go p e below P T (mkF m pc Ls (.int y :: .int x :: st)) := by
  subst hpc
  exact Go.of (fun _ q => XS.ior X.here hx rfl hd rfl q) K
theorem Go.ixor (X : Stand p l e R s m args below meth c T locs cells slots) (hx : p.tables.exec = Jvm.exec) {x y : Int32} (hd : decode c.code pc0 = .ok (.ixor, 1)) (hpc : pc = pc0)  (K : Go p e below P T (mkF m (pc0 + 1) Ls (.int (x ^^^ y) :: st))) : Go p e below P T (mkF m pc Ls (.int y :: .int x :: st)) := by
  subst hpc
  exact Go.of (fun _ q => XS.ixor X.here hx rfl hd rfl q) K
theorem Go.idiv (X : Stand p l e R s m args below meth c T locs cells slots) (hx : p.tables.exec = Jvm.exec) {x y : Int32} (hd : decode c.code pc0 = .ok (.idiv, 1)) (hpc : pc = pc0) (hy : y ≠ 0) (K : Go p e below P T (mkF m (pc0 + 1) Ls (.int (x / y) :: st))) : Go p e below P T (mkF m pc Ls (.int y :: .int x :: st)) := by
  subst hpc
  exact Go.of (fun _ q => XS.idiv X.here hx rfl hd rfl hy q) K
theorem Go.ineg (X : Stand p l e R s m args below meth c T locs cells slots) (hx : p.tables.exec = Jvm.exec) {x : Int32} (hd : decode c.code pc0 = .ok (.ineg, 1)) (hpc : pc = pc0)  (K : Go p e below P T (mkF m (pc0 + 1) Ls (.int (-x) :: st))) : Go p e below P T (mkF m pc Ls (.int x :: st)) := by
  subst hpc
  exact Go.of (fun _ q => XS.ineg X.here hx rfl hd rfl q) K
theorem Go.ladd (X : Stand p l e R s m args below meth c T locs cells slots) (hx : p.tables.exec = Jvm.exec) {x y : Int64} (hd : decode c.code pc0 = .ok (.ladd, 1)) (hpc : pc = pc0)  (K : Go p e below P T (mkF m (pc0 + 1) Ls (.long (x + y) :: st))) : Go p e below P T (mkF m pc Ls (.long y :: .long x :: st)) := by
  subst hpc
  exact Go.of (fun _ q => XS.ladd X.here hx rfl hd rfl q) K
theorem Go.lsub (X : Stand p l e R s m args below meth c T locs cells slots) (hx : p.tables.exec = Jvm.exec) {x y : Int64} (hd : decode c.code pc0 = .ok (.lsub, 1)) (hpc : pc = pc0)  (K : Go p e below P T (mkF m (pc0 + 1) Ls (.long (x - y) :: st))) : Go p e below P T (mkF m pc Ls (.long y :: .long x :: st)) := by
  subst hpc
  exact Go.of (fun _ q => XS.lsub X.here hx rfl hd rfl q) K
theorem Go.lmul (X : Stand p l e R s m args below meth c T locs cells slots) (hx : p.tables.exec = Jvm.exec) {x y : Int64} (hd : decode c.code pc0 = .ok (.lmul, 1)) (hpc : pc = pc0)  (K : Go p e below P T (mkF m (pc0 + 1) Ls (.long (x * y) :: st))) : Go p e below P T (mkF m pc Ls (.long y :: .long x :: st)) := by
  subst hpc
  exact Go.of (fun _ q => XS.lmul X.here hx rfl hd rfl q) K
theorem Go.land (X : Stand p l e R s m args below meth c T locs cells slots) (hx : p.tables.exec = Jvm.exec) {x y : Int64} (hd : decode c.code pc0 = .ok (.land, 1)) (hpc : pc = pc0)  (K : Go p e below P T (mkF m (pc0 + 1) Ls (.long (x &&& y) :: st))) : Go p e below P T (mkF m pc Ls (.long y :: .long x :: st)) := by
  subst hpc
  exact Go.of (fun _ q => XS.land X.here hx rfl hd rfl q) K
theorem Go.lor (X : Stand p l e R s m args below meth c T locs cells slots) (hx : p.tables.exec = Jvm.exec) {x y : Int64} (hd : decode c.code pc0 = .ok (.lor, 1)) (hpc : pc = pc0)  (K : Go p e below P T (mkF m (pc0 + 1) Ls (.long (x ||| y) :: st))) : Go p e below P T (mkF m pc Ls (.long y :: .long x :: st)) := by
  subst hpc
  exact Go.of (fun _ q => XS.lor X.here hx rfl hd rfl q) K
theorem Go.lxor (X : Stand p l e R s m args below meth c T locs cells slots) (hx : p.tables.exec = Jvm.exec) {x y : Int64} (hd : decode c.code pc0 = .ok (.lxor, 1)) (hpc : pc = pc0)  (K : Go p e below P T (mkF m (pc0 + 1) Ls (.long (x ^^^ y) :: st))) : Go p e below P T (mkF m pc Ls (.long y :: .long x :: st)) := by
  subst hpc
  exact Go.of (fun _ q => XS.lxor X.here hx rfl hd rfl q) K
theorem Go.ldiv (X : Stand p l e R s m args below meth c T locs cells slots) (hx : p.tables.exec = Jvm.exec) {x y : Int64} (hd : decode c.code pc0 = .ok (.ldiv, 1)) (hpc : pc = pc0) (hy : y ≠ 0) (K : Go p e below P T (mkF m (pc0 + 1) Ls (.long (x / y) :: st))) : Go p e below P T (mkF m pc Ls (.long y :: .long x :: st)) := by
  subst hpc
  exact Go.of (fun _ q => XS.ldiv X.here hx rfl hd rfl hy q) K
theorem Go.lneg (X : Stand p l e R s m args below meth c T locs cells slots) (hx : p.tables.exec = Jvm.exec) {x : Int64} (hd : decode c.code pc0 = .ok (.lneg, 1)) (hpc : pc = pc0)  (K : Go p e below P T (mkF m (pc0 + 1) Ls (.long (-x) :: st))) : Go p e below P T (mkF m pc Ls (.long x :: st)) := by
  subst hpc
  exact Go.of (fun _ q => XS.lneg X.here hx rfl hd rfl q) K
theorem Go.irem (X : Stand p l e R s m args below meth c T locs cells slots) (hx : p.tables.exec = Jvm.exec) {x y : Int32} (hd : decode c.code pc0 = .ok (.irem, 1)) (hpc : pc = pc0) (hy : y ≠ 0) (K : Go p e below P T (mkF m (pc0 + 1) Ls (.int (x % y) :: st))) : Go p e below P T (mkF m pc Ls (.int y :: .int x :: st)) := by
  subst hpc
  exact Go.of (fun _ q => iremM X hx rfl hd rfl hy q) K
theorem Go.lrem (X : Stand p l e R s m args below meth c T locs cells slots) (hx : p.tables.exec = Jvm.exec) {x y : Int64} (hd : decode c.code pc0 = .ok (.lrem, 1)) (hpc : pc = pc0) (hy : y ≠ 0) (K : Go p e below P T (mkF m (pc0 + 1) Ls (.long (x - (x / y) * y) :: st))) : Go p e below P T (mkF m pc Ls (.long y :: .long x :: st)) := by
  subst hpc
  exact Go.of (fun _ q => XS.lrem X.here hx rfl hd rfl hy q) K
theorem Go.ishl (X : Stand p l e R s m args below meth c T locs cells slots) (hx : p.tables.exec = Jvm.exec) {x y : Int32} (hd : decode c.code pc0 = .ok (.ishl, 1)) (hpc : pc = pc0)  (K : Go p e below P T (mkF m (pc0 + 1) Ls (.int (x <<< (y &&& 31)) :: st))) : Go p e below P T (mkF m pc Ls (.int y :: .int x :: st)) := by
  subst hpc
  exact Go.of (fun _ q => XS.ishl X.here hx rfl hd rfl q) K
theorem Go.ishr (X : Stand p l e R s m args below meth c T locs cells slots) (hx : p.tables.exec = Jvm.exec) {x y : Int32} (hd : decode c.code pc0 = .ok (.ishr, 1)) (hpc : pc = pc0)  (K : Go p e below P T (mkF m (pc0 + 1) Ls (.int (x >>> (y &&& 31)) :: st))) : Go p e below P T (mkF m pc Ls (.int y :: .int x :: st)) := by
  subst hpc
  exact Go.of (fun _ q => XS.ishr X.here hx rfl hd rfl q) K
theorem Go.iushr (X : Stand p l e R s m args below meth c T locs cells slots) (hx : p.tables.exec = Jvm.exec) {x y : Int32} (hd : decode c.code pc0 = .ok (.iushr, 1)) (hpc : pc = pc0)  (K : Go p e below P T (mkF m (pc0 + 1) Ls (.int ((x.toUInt32 >>> (y &&& 31).toUInt32).toInt32) :: st))) : Go p e below P T (mkF m pc Ls (.int y :: .int x :: st)) := by
  subst hpc
  exact Go.of (fun _ q => XS.iushr X.here hx rfl hd rfl q) K
theorem Go.lshl (X : Stand p l e R s m args below meth c T locs cells slots) (hx : p.tables.exec = Jvm.exec) {x : Int64} {y : Int32} (hd : decode c.code pc0 = .ok (.lshl, 1)) (hpc : pc = pc0)  (K : Go p e below P T (mkF m (pc0 + 1) Ls (.long (x <<< (y &&& 0x3f).toInt64) :: st))) : Go p e below P T (mkF m pc Ls (.int y :: .long x :: st)) := by
  subst hpc
  exact Go.of (fun _ q => XS.lshl X.here hx rfl hd rfl q) K
theorem Go.lshr (X : Stand p l e R s m args below meth c T locs cells slots) (hx : p.tables.exec = Jvm.exec) {x : Int64} {y : Int32} (hd : decode c.code pc0 = .ok (.lshr, 1)) (hpc : pc = pc0)  (K : Go p e below P T (mkF m (pc0 + 1) Ls (.long (x >>> (y &&& 0x3f).toInt64) :: st))) : Go p e below P T (mkF m pc Ls (.int y :: .long x :: st)) := by
  subst hpc
  exact Go.of (fun _ q => XS.lshr X.here hx rfl hd rfl q) K
theorem Go.lushr (X : Stand p l e R s m args below meth c T locs cells slots) (hx : p.tables.exec = Jvm.exec) {x : Int64} {y : Int32} (hd : decode c.code pc0 = .ok (.lushr, 1)) (hpc : pc = pc0)  (K : Go p e below P T (mkF m (pc0 + 1) Ls (.long ((x.toUInt64 >>> (y &&& 0x3f).toInt64.toUInt64).toInt64) :: st))) : Go p e below P T (mkF m pc Ls (.int y :: .long x :: st)) := by
  subst hpc
  exact Go.of (fun _ q => XS.lushr X.here hx rfl hd rfl q) K
theorem Go.i2l (X : Stand p l e R s m args below meth c T locs cells slots) (hx : p.tables.exec = Jvm.exec) {x : Int32} (hd : decode c.code pc0 = .ok (.i2l, 1)) (hpc : pc = pc0)  (K : Go p e below P T (mkF m (pc0 + 1) Ls (.long x.toInt64 :: st))) : Go p e below P T (mkF m pc Ls (.int x :: st)) := by
  subst hpc
  exact Go.of (fun _ q => XS.i2l X.here hx rfl hd rfl q) K
theorem Go.l2i (X : Stand p l e R s m args below meth c T locs cells slots) (hx : p.tables.exec = Jvm.exec) {x : Int64} (hd : decode c.code pc0 = .ok (.l2i, 1)) (hpc : pc = pc0)  (K : Go p e below P T (mkF m (pc0 + 1) Ls (.int x.toInt32 :: st))) : Go p e below P T (mkF m pc Ls (.long x :: st)) := by
  subst hpc
  exact Go.of (fun _ q => XS.l2i X.here hx rfl hd rfl q) K
theorem Go.i2b (X : Stand p l e R s m args below meth c T locs cells slots) (hx : p.tables.exec = Jvm.exec) {x : Int32} (hd : decode c.code pc0 = .ok (.i2b, 1)) (hpc : pc = pc0)  (K : Go p e below P T (mkF m (pc0 + 1) Ls (.int x.toInt8.toInt32 :: st))) : Go p e below P T (mkF m pc Ls (.int x :: st)) := by
  subst hpc
  exact Go.of (fun _ q => XS.i2b X.here hx rfl hd rfl q) K
theorem Go.i2s (X : Stand p l e R s m args below meth c T locs cells slots) (hx : p.tables.exec = Jvm.exec) {x : Int32} (hd : decode c.code pc0 = .ok (.i2s, 1)) (hpc : pc = pc0)  (K : Go p e below P T (mkF m (pc0 + 1) Ls (.int x.toInt16.toInt32 :: st))) : Go p e below P T (mkF m pc Ls (.int x :: st)) := by
  subst hpc
  exact Go.of (fun _ q => XS.i2s X.here hx rfl hd rfl q) K
theorem Go.i2c (X : Stand p l e R s m args below meth c T locs cells slots) (hx : p.tables.exec = Jvm.exec) {x : Int32} (hd : decode c.code pc0 = .ok (.i2c, 1)) (hpc : pc = pc0)  (K : Go p e below P T (mkF m (pc0 + 1) Ls (.int x.toUInt32.toUInt16.toUInt32.toInt32 :: st))) : Go p e below P T (mkF m pc Ls (.int x :: st)) := by
  subst hpc
  exact Go.of (fun _ q => XS.i2c X.here hx rfl hd rfl q) K
theorem Go.lcmp (X : Stand p l e R s m args below meth c T locs cells slots) (hx : p.tables.exec = Jvm.exec) {x y : Int64} (hd : decode c.code pc0 = .ok (.lcmp, 1)) (hpc : pc = pc0)  (K : Go p e below P T (mkF m (pc0 + 1) Ls (.int (lcmpW x y) :: st))) : Go p e below P T (mkF m pc Ls (.long y :: .long x :: st)) := by
  subst hpc
  exact Go.of (fun _ q => XS.lcmp X.here hx rfl hd rfl q) K
theorem Go.dup (X : Stand p l e R s m args below meth c T locs cells slots) (hx : p.tables.exec = Jvm.exec) {x : Value} (hd : decode c.code pc0 = .ok (.dup, 1)) (hpc : pc = pc0) (hc : x.category = 1) (K : Go p e below P T (mkF m (pc0 + 1) Ls (x :: x :: st))) : Go p e below P T (mkF m pc Ls (x :: st)) := by
  subst hpc
  exact Go.of (fun _ q => XS.dup X.here hx rfl hd rfl hc q) K
theorem Go.dupX1 (X : Stand p l e R s m args below meth c T locs cells slots) (hx : p.tables.exec = Jvm.exec) {x y : Value} (hd : decode c.code pc0 = .ok (.dup_x1, 1)) (hpc : pc = pc0) (hc : x.category = 1) (hc' : y.category = 1) (K : Go p e below P T (mkF m (pc0 + 1) Ls (x :: y :: x :: st))) : Go p e below P T (mkF m pc Ls (x :: y :: st)) := by
  subst hpc
  exact Go.of (fun _ q => XS.dupX1 X.here hx rfl hd rfl hc hc' q) K
theorem Go.dup2 (X : Stand p l e R s m args below meth c T locs cells slots) (hx : p.tables.exec = Jvm.exec) {x y : Value} (hd : decode c.code pc0 = .ok (.dup2, 1)) (hpc : pc = pc0) (hc : x.category = 1) (hc' : y.category = 1) (K : Go p e below P T (mkF m (pc0 + 1) Ls (x :: y :: x :: y :: st))) : Go p e below P T (mkF m pc Ls (x :: y :: st)) := by
  subst hpc
  exact Go.of (fun _ q => XT.dup2 X.here hx rfl hd rfl hc hc' q) K
theorem Go.pop (X : Stand p l e R s m args below meth c T locs cells slots) (hx : p.tables.exec = Jvm.exec) {x : Value} (hd : decode c.code pc0 = .ok (.pop, 1)) (hpc : pc = pc0) (hc : x.category = 1) (K : Go p e below P T (mkF m (pc0 + 1) Ls (st))) : Go p e below P T (mkF m pc Ls (x :: st)) := by
  subst hpc
  exact Go.of (fun _ q => XS.pop X.here hx rfl hd rfl hc q) K
theorem Go.iinc (X : Stand p l e R s m args below meth c T locs cells slots) (hx : p.tables.exec = Jvm.exec) {k : Nat} {cst : Int} {x : Int32} (hd : decode c.code pc0 = .ok (.iinc k cst, 3)) (hpc : pc = pc0) (hl : Ls[k]? = some (.val (.int x))) (l' : Array Slot) (hl' : storeLocals Ls k (.int (x + Int32.ofInt cst)) = some l') (K : Go p e below P T (mkF m (pc0 + 3) l' (st))) : Go p e below P T (mkF m pc Ls (st)) := by
  subst hpc
  exact Go.of (fun _ q => XS.iinc X.here hx rfl hd hl hl' q) K
theorem Go.goto (X : Stand p l e R s m args below meth c T locs cells slots) (hx : p.tables.exec = Jvm.exec)  {o : Int} (hd : decode c.code pc0 = .ok (.goto o, 3)) (hpc : pc = pc0) (pc' : Nat)  (ho : 0 ≤ (pc0 : Int) + o) (hp : ((pc0 : Int) + o).toNat = pc') (K : Go p e below P T (mkF m pc' Ls st)) : Go p e below P T (mkF m pc Ls (st)) := by
  subst hpc
  exact Go.of (fun _ q => XS.goto X.here hx rfl rfl hd ho hp q) K
theorem Go.ifYes (X : Stand p l e R s m args below meth c T locs cells slots) (hx : p.tables.exec = Jvm.exec) {cd : ClassFile.Cond} {x : Int32} {o : Int} (hd : decode c.code pc0 = .ok (.ifCond cd o, 3)) (hpc : pc = pc0) (pc' : Nat) (hc : ifCond.holds cd x = true) (ho : 0 ≤ (pc0 : Int) + o) (hp : ((pc0 : Int) + o).toNat = pc') (K : Go p e below P T (mkF m pc' Ls st)) : Go p e below P T (mkF m pc Ls (.int x :: st)) := by
  subst hpc
  exact Go.of (fun _ q => XS.ifYes X.here hx rfl rfl hd rfl hc ho hp q) K
theorem Go.icmpYes (X : Stand p l e R s m args below meth c T locs cells slots) (hx : p.tables.exec = Jvm.exec) {cd : ClassFile.Cond} {x y : Int32} {o : Int} (hd : decode c.code pc0 = .ok (.if_icmp cd o, 3)) (hpc : pc = pc0) (pc' : Nat) (hc : if_icmp.holds cd x y = true) (ho : 0 ≤ (pc0 : Int) + o) (hp : ((pc0 : Int) + o).toNat = pc') (K : Go p e below P T (mkF m pc' Ls st)) : Go p e below P T (mkF m pc Ls (.int y :: .int x :: st)) := by
  subst hpc
  exact Go.of (fun _ q => XS.icmpYes X.here hx rfl rfl hd rfl hc ho hp q) K
theorem Go.ifnullYes (X : Stand p l e R s m args below meth c T locs cells slots) (hx : p.tables.exec = Jvm.exec)  {o : Int} (hd : decode c.code pc0 = .ok (.ifnull o, 3)) (hpc : pc = pc0) (pc' : Nat)  (ho : 0 ≤ (pc0 : Int) + o) (hp : ((pc0 : Int) + o).toNat = pc') (K : Go p e below P T (mkF m pc' Ls st)) : Go p e below P T (mkF m pc Ls (.null :: st)) := by
  subst hpc
  exact Go.of (fun _ q => XS.ifnullYes X.here hx rfl rfl hd rfl ho hp q) K
theorem Go.ifnonnullYes (X : Stand p l e R s m args below meth c T locs cells slots) (hx : p.tables.exec = Jvm.exec) {b : Addr} {o : Int} (hd : decode c.code pc0 = .ok (.ifnonnull o, 3)) (hpc : pc = pc0) (pc' : Nat)  (ho : 0 ≤ (pc0 : Int) + o) (hp : ((pc0 : Int) + o).toNat = pc') (K : Go p e below P T (mkF m pc' Ls st)) : Go p e below P T (mkF m pc Ls (.ref b :: st)) := by
  subst hpc
  exact Go.of (fun _ q => XS.ifnonnullYes X.here hx rfl rfl hd rfl ho hp q) K
theorem Go.ifNo (X : Stand p l e R s m args below meth c T locs cells slots) (hx : p.tables.exec = Jvm.exec) {cd : ClassFile.Cond} {o : Int} {x : Int32} (hd : decode c.code pc0 = .ok (.ifCond cd o, 3)) (hpc : pc = pc0) (hc : ifCond.holds cd x = false) (K : Go p e below P T (mkF m (pc0 + 3) Ls (st))) : Go p e below P T (mkF m pc Ls (.int x :: st)) := by
  subst hpc
  exact Go.of (fun _ q => XS.ifNo X.here hx rfl hd rfl hc q) K
theorem Go.icmpNo (X : Stand p l e R s m args below meth c T locs cells slots) (hx : p.tables.exec = Jvm.exec) {cd : ClassFile.Cond} {o : Int} {x y : Int32} (hd : decode c.code pc0 = .ok (.if_icmp cd o, 3)) (hpc : pc = pc0) (hc : if_icmp.holds cd x y = false) (K : Go p e below P T (mkF m (pc0 + 3) Ls (st))) : Go p e below P T (mkF m pc Ls (.int y :: .int x :: st)) := by
  subst hpc
  exact Go.of (fun _ q => XS.icmpNo X.here hx rfl hd rfl hc q) K
theorem Go.ifnullNo (X : Stand p l e R s m args below meth c T locs cells slots) (hx : p.tables.exec = Jvm.exec) {o : Int} {b : Addr} (hd : decode c.code pc0 = .ok (.ifnull o, 3)) (hpc : pc = pc0)  (K : Go p e below P T (mkF m (pc0 + 3) Ls (st))) : Go p e below P T (mkF m pc Ls (.ref b :: st)) := by
  subst hpc
  exact Go.of (fun _ q => XS.ifnullNo X.here hx rfl hd rfl q) K
theorem Go.ifnonnullNo (X : Stand p l e R s m args below meth c T locs cells slots) (hx : p.tables.exec = Jvm.exec) {o : Int} (hd : decode c.code pc0 = .ok (.ifnonnull o, 3)) (hpc : pc = pc0)  (K : Go p e below P T (mkF m (pc0 + 3) Ls (st))) : Go p e below P T (mkF m pc Ls (.null :: st)) := by
  subst hpc
  exact Go.of (fun _ q => XS.ifnonnullNo X.here hx rfl hd rfl q) K
theorem Go.acmp (X : Stand p l e R s m args below meth c T locs cells slots) (hx : p.tables.exec = Jvm.exec) {cd : ACond} {x y : Value} {o : Int} (hd : decode c.code pc0 = .ok (.if_acmp cd o, 3)) (hpc : pc = pc0) (h1 : x.isRef = true) (h2 : y.isRef = true) (same : Bool) (hq : decide (x = y) = same) (pc' : Nat) (ho : 0 ≤ (pc0 : Int) + o) (hp : pc' = if acV cd same = true then ((pc0 : Int) + o).toNat else pc0 + 3) (K : Go p e below P T (mkF m pc' Ls st)) : Go p e below P T (mkF m pc Ls (y :: x :: st)) := by
  subst hpc
  exact Go.of (fun _ q => Jvm.RoadKit.acmp X hx rfl h1 h2 rfl hd rfl hq ho hp q) K
theorem Go.tswIn (X : Stand p l e R s m args below meth c T locs cells slots) (hx : p.tables.exec = Jvm.exec) {dflt low high : Int} {offs : Array Int} {len : Nat} {o : Int} {i : Int32} (hd : decode c.code pc0 = .ok (.tableswitch dflt low high offs, len)) (hpc : pc = pc0) (pc' : Nat) (hin : ¬ (i.toInt < low ∨ i.toInt > high)) (hoff : offs[(i.toInt - low).toNat]? = some o) (ho : 0 ≤ (pc0 : Int) + o) (hp : ((pc0 : Int) + o).toNat = pc') (K : Go p e below P T (mkF m pc' Ls st)) : Go p e below P T (mkF m pc Ls (.int i :: st)) := by
  subst hpc
  exact Go.of (fun _ q => XS.tswIn X.here hx rfl rfl hd rfl hin hoff ho hp q) K
theorem Go.ldc (X : Stand p l e R s m args below meth c T locs cells slots) (hx : p.tables.exec = Jvm.exec) (hZ : Z.Warmed39 s.vm) {own : String} {index : Nat} (hown : s.vm.findClass own = some m.cls) {v : Int32} (w : (Cond.constant own index v).before a0 Z = true) (hd : decode c.code pc0 = .ok (.ldc index, 2)) (hpc : pc = pc0) (K : Go p e below P T (mkF m (pc0 + 2) Ls (.int v :: st))) : Go p e below P T (mkF m pc Ls st) := by
  subst hpc
  exact Go.of (fun _ q => X.ldcInt hx hown (mvT hZ w) (g := mkF m pc Ls st) rfl hd _ q) K
theorem Go.ldc_w (X : Stand p l e R s m args below meth c T locs cells slots) (hx : p.tables.exec = Jvm.exec) (hZ : Z.Warmed39 s.vm) {own : String} {index : Nat} (hown : s.vm.findClass own = some m.cls) {v : Int32} (w : (Cond.constant own index v).before a0 Z = true) (hd : decode c.code pc0 = .ok (.ldc_w index, 3)) (hpc : pc = pc0) (K : Go p e below P T (mkF m (pc0 + 3) Ls (.int v :: st))) : Go p e below P T (mkF m pc Ls st) := by
  subst hpc
  exact Go.of (fun _ q => X.ldcwInt hx hown (mvT hZ w) (g := mkF m pc Ls st) rfl hd _ q) K
theorem Go.ldc2_w (X : Stand p l e R s m args below meth c T locs cells slots) (hx : p.tables.exec = Jvm.exec) (hZ : Z.Warmed39 s.vm) {own : String} {index : Nat} (hown : s.vm.findClass own = some m.cls) {v : Int64} (w : (Cond.constantLong own index v).before a0 Z = true) (hd : decode c.code pc0 = .ok (.ldc2_w index, 3)) (hpc : pc = pc0) (K : Go p e below P T (mkF m (pc0 + 3) Ls (.long v :: st))) : Go p e below P T (mkF m pc Ls st) := by
  subst hpc
  exact Go.of (fun _ q => X.ldc2Long hx hown (mvT hZ w) (g := mkF m pc Ls st) rfl hd _ q) K
theorem Go.getS (X : Stand p l e R s m args below meth c T locs cells slots) (hx : p.tables.exec = Jvm.exec) (hZ : Z.Warmed39 s.vm) {own : String} {index : Nat} (hown : s.vm.findClass own = some m.cls) {R0 O n d host : String} {v : Value} (w : (Cond.fieldLink own index R0 n d).before a0 Z = true ∨ (Cond.fieldLinkNest own index R0 n d host).before a0 Z = true) (via : Via Z R0 O n d) (eT : T.heap = h) (F : Sta Z h O n d v) (hd : decode c.code pc0 = .ok (.getstatic index, 3)) (hpc : pc = pc0) (K : ∀ T', Stand p l e R s m args below meth c T' locs cells slots → T'.heap = h → Go p e below P T' (mkF m (pc0 + 3) Ls (v :: st))) : Go p e below P T (mkF m pc Ls st) := by
  subst hpc
  obtain ⟨T', X', e', q⟩ := getS2 X hx hZ hown w via eT F (g := mkF m pc Ls st) rfl hd
  exact Go.of q (K T' X' e')
theorem Go.getF (X : Stand p l e R s m args below meth c T locs cells slots) (hx : p.tables.exec = Jvm.exec) (hZ : Z.Warmed39 s.vm) {own : String} {index : Nat} (hown : s.vm.findClass own = some m.cls) {R0 O n d host : String} {a : Addr} {v : Value} (w : (Cond.fieldLink own index R0 n d).before a0 Z = true ∨ (Cond.fieldLinkNest own index R0 n d host).before a0 Z = true) (via : Via Z R0 O n d) (eT : T.heap = h) (F : Fld Z h a O n d v) (hd : decode c.code pc0 = .ok (.getfield index, 3)) (hpc : pc = pc0) (K : ∀ T', Stand p l e R s m args below meth c T' locs cells slots → T'.heap = h → Go p e below P T' (mkF m (pc0 + 3) Ls (v :: st))) : Go p e below P T (mkF m pc Ls (.ref a :: st)) := by
  subst hpc
  obtain ⟨T', X', e', q⟩ := Jvm.RoadKit.getF X hx hZ hown w via eT F (g := mkF m pc Ls (.ref a :: st)) rfl rfl hd
  exact Go.of q (K T' X' e')
theorem Go.putF (X : Stand p l e R s m args below meth c T locs cells slots) (hx : p.tables.exec = Jvm.exec) (hZ : Z.Warmed39 s.vm) {own : String} {index : Nat} (hown : s.vm.findClass own = some m.cls) {R0 O n d host C : String} {kk : Nat} {a : Addr} {v old : Value} {ty : FieldType} (w : (Cond.fieldLink own index R0 n d).before a0 Z = true ∨ (Cond.fieldLinkNest own index R0 n d host).before a0 Z = true) (via : Via Z R0 O n d) (eT : T.heap = h) (F : Fld Z h a O n d old) (E : Exa Z h a C) (L : (Cond.lays C O n d).before a0 Z = true ∨ ((Cond.laysFinal C O n d).before a0 Z = true ∧ own = O ∧ meth.name = "<init>")) (wi : (Cond.instantiable C kk).before a0 Z = true) (hty : parseFieldDescriptor d = some ty) (hn : narrow ty v = v) (hf : fits ty v = true) (hd : decode c.code pc0 = .ok (.putfield index, 3)) (hpc : pc = pc0)
    (K : ∀ T' h', Stand p l e R s m args below meth c T' (locs ++ [⟨a, Jvm.RoadKit.slotOf Z O n d⟩]) cells slots → T'.heap = h' → Wr h h' a (Jvm.RoadKit.slotOf Z O n d) v → Fld Z h' a O n d v → Go p e below P T' (mkF m (pc0 + 3) Ls st)) : Go p e below P T (mkF m pc Ls (v :: .ref a :: st)) := by
  subst hpc
  obtain ⟨T', h', X', e', W, q⟩ := Jvm.RoadKit.putF X hx hZ hown w via eT F E L wi hty hn hf (g := mkF m pc Ls (v :: .ref a :: st)) rfl rfl hd
  exact Go.of q (K T' h' X' e' W (F.same W))
theorem Go.newO (X : Stand p l e R s m args below meth c T locs cells slots) (hx : p.tables.exec = Jvm.exec) (hZ : Z.Warmed39 s.vm) {own : String} {index : Nat} (hown : s.vm.findClass own = some m.cls) {C : String} {n : Nat} (w : (Cond.classLink own index C).before a0 Z = true) (wi : (Cond.instantiable C n).before a0 Z = true) (wz : (Cond.initialized C).before a0 Z = true) (eT : T.heap = h) (hd : decode c.code pc0 = .ok (.new index, 3)) (hpc : pc = pc0) (hc : cells + 1 ≤ R.cells) (hl : slots + n ≤ R.slots)
    (K : ∀ T' h' b, b = h.size → Stand p l e R s m args below meth c T' locs (cells + 1) (slots + n) → T'.heap = h' → Ext h h' → Exa Z h' b C → (∀ {O nm d : String} {ty : FieldType}, Laid Z a0 C O nm d → parseFieldDescriptor d = some ty → Fld Z h' b O nm d (defaultValue ty)) → Go p e below P T' (mkF m (pc0 + 3) Ls (.ref b :: st))) : Go p e below P T (mkF m pc Ls st) := by
  subst hpc
  obtain ⟨T', h', X', e', E, A, D, -, q⟩ := Jvm.RoadKit.newO X hx hZ hown w wi wz eT (g := mkF m pc Ls st) rfl hd hc hl
  exact Go.of q (K T' h' _ rfl X' e' E A D)
theorem Go.initO (X : Stand p l e R s m args below meth c T locs cells slots) (hx : p.tables.exec = Jvm.exec) (hZ : Z.Warmed39 s.vm) {own : String} {index : Nat} (hown : s.vm.findClass own = some m.cls) (w1 : (Cond.methodLink own index Lib.objectInit).before a0 Z = true) (w2 : (Cond.instanceMethod Lib.objectInit).before a0 Z = true) (w3 : (Cond.code Lib.objectInit ⟨#[0xb1]⟩ 1 none).before a0 Z = true) (eT : T.heap = h) (hsz : Ls.size = c.maxLocals) {a : Addr} (hd : decode c.code pc0 = .ok (.invokespecial index, 3)) (hpc : pc = pc0) (hf : 1 ≤ R.frames) (hl : (st.map fun v => v.category).sum + 12 ≤ R.locals) (K : ∀ T', Stand p l e R s m args below meth c T' locs cells slots → T'.heap = h → Go p e below P T' (mkF m (pc0 + 3) Ls (st))) : Go p e below P T (mkF m pc Ls (.ref a :: st)) := by
  subst hpc
  obtain ⟨T', X', e', q⟩ := Jvm.RoadKit.initO X hx hZ hown w1 w2 w3 eT (g := mkF m pc Ls (.ref a :: st)) rfl hsz rfl hd hf (W := (st.map fun v => v.category).sum) (by show 2 * 0 + _ ≤ _; omega) hl
  exact Go.of q (K T' X' e')
theorem Go.alen (X : Stand p l e R s m args below meth c T locs cells slots) (hx : p.tables.exec = Jvm.exec) (hZ : Z.Warmed39 s.vm) {a : Addr} {k : ClassId} {ty : FieldType} {n : Int32} {vs : List Value} {dv : Value} (A : Arv Z h a k ty n vs dv) (eT : T.heap = h) (hd : decode c.code pc0 = .ok (.arraylength, 1)) (hpc : pc = pc0) (K : Go p e below P T (mkF m (pc0 + 1) Ls (.int n :: st))) : Go p e below P T (mkF m pc Ls (.ref a :: st)) := by
  subst hpc
  obtain ⟨cl, Ar, -, Sz, Ng, -, -⟩ := A
  refine Go.of (fun _ q => X.arraylength hx (by rw [eT]; exact Ar.1) (State.isArrayOf_alike hZ.alike Ar.2.1) (g := mkF m pc Ls (.ref a :: st)) rfl rfl hd _ q) ?_
  rw [len_of Sz Ng]
  exact K
theorem Go.iaload (X : Stand p l e R s m args below meth c T locs cells slots) (hx : p.tables.exec = Jvm.exec) (hZ : Z.Warmed39 s.vm) {a : Addr} {k : ClassId} {n : Int32} {vs : List Value} {dv : Value} {j : Int32} (v : Value) (A : Arv Z h a k .int n vs dv) (eT : T.heap = h) (hj : ¬ j < 0 ∧ j < n) (hv : vs.getD j.toNatClampNeg dv = v) (hd : decode c.code pc0 = .ok (.iaload, 1)) (hpc : pc = pc0) (K : Go p e below P T (mkF m (pc0 + 1) Ls (v :: st))) : Go p e below P T (mkF m pc Ls (.int j :: .ref a :: st)) := by
  subst hpc
  obtain ⟨cl, Ar, -, Sz, Ng, Hs, -⟩ := A
  have hin : ¬ (j < 0 ∨ cl.slots.size ≤ j.toNatClampNeg) := inb_of Sz hj
  exact Go.of (fun _ q => X.iaload hx (j := j) (v := v) (by rw [eT]; exact Ar.1) (State.isArrayOf_alike hZ.alike Ar.2.1) Ar.2.2 hin (Has.at Hs hin hv) (g := mkF m pc Ls (.int j :: .ref a :: st)) rfl rfl hd _ q) K
theorem Go.laload (X : Stand p l e R s m args below meth c T locs cells slots) (hx : p.tables.exec = Jvm.exec) (hZ : Z.Warmed39 s.vm) {a : Addr} {k : ClassId} {n : Int32} {vs : List Value} {dv : Value} {j : Int32} (v : Value) (A : Arv Z h a k .long n vs dv) (eT : T.heap = h) (hj : ¬ j < 0 ∧ j < n) (hv : vs.getD j.toNatClampNeg dv = v) (hd : decode c.code pc0 = .ok (.laload, 1)) (hpc : pc = pc0) (K : Go p e below P T (mkF m (pc0 + 1) Ls (v :: st))) : Go p e below P T (mkF m pc Ls (.int j :: .ref a :: st)) := by
  subst hpc
  obtain ⟨cl, Ar, -, Sz, Ng, Hs, -⟩ := A
  have hin : ¬ (j < 0 ∨ cl.slots.size ≤ j.toNatClampNeg) := inb_of Sz hj
  exact Go.of (fun _ q => X.laload hx (j := j) (v := v) (by rw [eT]; exact Ar.1) (State.isArrayOf_alike hZ.alike Ar.2.1) Ar.2.2 hin (Has.at Hs hin hv) (g := mkF m pc Ls (.int j :: .ref a :: st)) rfl rfl hd _ q) K
theorem Go.aaload (X : Stand p l e R s m args below meth c T locs cells slots) (hx : p.tables.exec = Jvm.exec) (hZ : Z.Warmed39 s.vm) {a : Addr} {k : ClassId} {ty : FieldType} {n : Int32} {vs : List Value} {dv : Value} {j : Int32} (v : Value) (A : Arv Z h a k ty n vs dv) (eT : T.heap = h) (hty : ty.isReference = true) (hj : ¬ j < 0 ∧ j < n) (hv : vs.getD j.toNatClampNeg dv = v) (hd : decode c.code pc0 = .ok (.aaload, 1)) (hpc : pc = pc0) (K : Go p e below P T (mkF m (pc0 + 1) Ls (v :: st))) : Go p e below P T (mkF m pc Ls (.int j :: .ref a :: st)) := by
  subst hpc
  obtain ⟨cl, Ar, -, Sz, Ng, Hs, -⟩ := A
  have hin : ¬ (j < 0 ∨ cl.slots.size ≤ j.toNatClampNeg) := inb_of Sz hj
  exact Go.of (fun _ q => X.aaload hx (j := j) (v := v) (by rw [eT]; exact Ar.1) (State.isArrayOf_alike hZ.alike Ar.2.1) hty Ar.2.2 hin (Has.at Hs hin hv) (g := mkF m pc Ls (.int j :: .ref a :: st)) rfl rfl hd _ q) K
theorem Go.iastore (X : Stand p l e R s m args below meth c T locs cells slots) (hx : p.tables.exec = Jvm.exec) (hZ : Z.Warmed39 s.vm) {a : Addr} {k : ClassId} {n : Int32} {vs : List Value} {dv : Value} {j : Int32} {x : Int32} (A : Arv Z h a k .int n vs dv) (eT : T.heap = h) (hj : ¬ j < 0 ∧ j < n) (i : Nat) (hi : j.toNatClampNeg = i) (hl : i < vs.length) (hd : decode c.code pc0 = .ok (.iastore, 1)) (hpc : pc = pc0)
    (K : ∀ T' h', Stand p l e R s m args below meth c T' (locs ++ [⟨a, j.toNatClampNeg⟩]) cells slots → T'.heap = h' → Wr h h' a j.toNatClampNeg (.int x) → Arv Z h' a k .int n (vs.set i (.int x)) dv → Go p e below P T' (mkF m (pc0 + 1) Ls st)) : Go p e below P T (mkF m pc Ls (.int x :: .int j :: .ref a :: st)) := by
  subst hpc
  obtain ⟨cl, Ar, cq, Sz, Ng, Hs, Gs⟩ := A
  have hin : ¬ (j < 0 ∨ cl.slots.size ≤ j.toNatClampNeg) := inb_of Sz hj
  obtain ⟨T', h', X', e', W, q⟩ := stI X hx hZ eT Ar (j := j) hin (g := mkF m pc Ls (.int x :: .int j :: .ref a :: st)) rfl rfl hd
  exact Go.of q (K T' h' X' e' W (Arv.set Ar cq Sz Ng Hs Gs rfl W i hi hl))
theorem Go.lastore (X : Stand p l e R s m args below meth c T locs cells slots) (hx : p.tables.exec = Jvm.exec) (hZ : Z.Warmed39 s.vm) {a : Addr} {k : ClassId} {n : Int32} {vs : List Value} {dv : Value} {j : Int32} {x : Int64} (A : Arv Z h a k .long n vs dv) (eT : T.heap = h) (hj : ¬ j < 0 ∧ j < n) (i : Nat) (hi : j.toNatClampNeg = i) (hl : i < vs.length) (hd : decode c.code pc0 = .ok (.lastore, 1)) (hpc : pc = pc0)
    (K : ∀ T' h', Stand p l e R s m args below meth c T' (locs ++ [⟨a, j.toNatClampNeg⟩]) cells slots → T'.heap = h' → Wr h h' a j.toNatClampNeg (.long x) → Arv Z h' a k .long n (vs.set i (.long x)) dv → Go p e below P T' (mkF m (pc0 + 1) Ls st)) : Go p e below P T (mkF m pc Ls (.long x :: .int j :: .ref a :: st)) := by
  subst hpc
  obtain ⟨cl, Ar, cq, Sz, Ng, Hs, Gs⟩ := A
  have hin : ¬ (j < 0 ∨ cl.slots.size ≤ j.toNatClampNeg) := inb_of Sz hj
  obtain ⟨T', h', X', e', W, q⟩ := stJ X hx hZ eT Ar (j := j) hin (g := mkF m pc Ls (.long x :: .int j :: .ref a :: st)) rfl rfl hd
  exact Go.of q (K T' h' X' e' W (Arv.set Ar cq Sz Ng Hs Gs rfl W i hi hl))
theorem Go.aastore (X : Stand p l e R s m args below meth c T locs cells slots) (hx : p.tables.exec = Jvm.exec) (hZ : Z.Warmed39 s.vm) {a : Addr} {k : ClassId} {ty : FieldType} {n : Int32} {vs : List Value} {dv : Value} {j : Int32} {v : Value} (A : Arv Z h a k ty n vs dv) (eT : T.heap = h) (hj : ¬ j < 0 ∧ j < n) (i : Nat) (hi : j.toNatClampNeg = i) (hl : i < vs.length) (hty : ty.isReference = true) (hfv : fits ty v = true) (F : ∀ cl, Arr Z h a cl ty → cl.cls = k → Sto Z h a v) (hd : decode c.code pc0 = .ok (.aastore, 1)) (hpc : pc = pc0)
    (K : ∀ T' h', Stand p l e R s m args below meth c T' (locs ++ [⟨a, j.toNatClampNeg⟩]) cells slots → T'.heap = h' → Wr h h' a j.toNatClampNeg (v) → Arv Z h' a k ty n (vs.set i (v)) dv → Go p e below P T' (mkF m (pc0 + 1) Ls st)) : Go p e below P T (mkF m pc Ls (v :: .int j :: .ref a :: st)) := by
  subst hpc
  obtain ⟨cl, Ar, cq, Sz, Ng, Hs, Gs⟩ := A
  have hin : ¬ (j < 0 ∨ cl.slots.size ≤ j.toNatClampNeg) := inb_of Sz hj
  obtain ⟨T', h', X', e', W, q⟩ := stR X hx hZ eT Ar (j := j) hin hty (F cl Ar cq) (g := mkF m pc Ls (v :: .int j :: .ref a :: st)) rfl rfl hd
  exact Go.of q (K T' h' X' e' W (Arv.set Ar cq Sz Ng Hs Gs hfv W i hi hl))
theorem Go.newP (X : Stand p l e R s m args below meth c T locs cells slots) (hx : p.tables.exec = Jvm.exec) (hZ : Z.Warmed39 s.vm) {aty : ArrayType} {n : Int32} (w : (Cond.arrayClass (newarray.typeOf aty)).before a0 Z = true) (eT : T.heap = h) (u : Nat) (hn : ¬ n < 0) (cap : Nat) (hcap : n.toNatClampNeg ≤ cap) (hb : cap * 8 ≤ 536870912) (hc : cells + 1 ≤ R.cells) (hl : slots + cap ≤ R.slots) (ad : String) (had : "[" ++ (newarray.typeOf aty).toString = ad) (hd : decode c.code pc0 = .ok (.newarray aty, 2)) (hpc : pc = pc0)
    (K : ∀ T' h' b k, b = h.size → Stand p l e R s m args below meth c T' locs (cells + 1) (slots + cap) → T'.heap = h' → Ext h h' → Arv Z h' b k (newarray.typeOf aty) n ([] ++ List.replicate u (defaultValue (newarray.typeOf aty))) (defaultValue (newarray.typeOf aty)) → Exa Z h' b ad → Go p e below P T' (mkF m (pc0 + 2) Ls (.ref b :: st))) : Go p e below P T (mkF m pc Ls (.int n :: st)) := by
  subst hpc
  obtain ⟨T', h', cA, X', e', E, A, A', q⟩ := newPE X hx hZ w eT (g := mkF m pc Ls (.int n :: st)) rfl hd rfl hn (cap := cap) hcap hb hc hl had
  exact Go.of q (K T' h' _ cA rfl X' e' E ((Arv.new A hn).pad (pad_rep [] _ u)) A')
theorem Go.newR (X : Stand p l e R s m args below meth c T locs cells slots) (hx : p.tables.exec = Jvm.exec) (hZ : Z.Warmed39 s.vm) {own : String} {index : Nat} (hown : s.vm.findClass own = some m.cls) {C : String} {n : Int32} (w1 : (Cond.classLink own index C).before a0 Z = true) (w2 : (Cond.arrayOver (.object C)).before a0 Z = true) (eT : T.heap = h) (u : Nat) (hn : ¬ n < 0) (cap : Nat) (hcap : n.toNatClampNeg ≤ cap) (hb : cap * 8 ≤ 536870912) (hc : cells + 1 ≤ R.cells) (hl : slots + cap ≤ R.slots) (hd : decode c.code pc0 = .ok (.anewarray index, 3)) (hpc : pc = pc0)
    (K : ∀ T' h' b k, b = h.size → Stand p l e R s m args below meth c T' locs (cells + 1) (slots + cap) → T'.heap = h' → Ext h h' → Arv Z h' b k (.object C) n ([] ++ List.replicate u (.null)) (.null) → Ovr Z k C → Go p e below P T' (mkF m (pc0 + 3) Ls (.ref b :: st))) : Go p e below P T (mkF m pc Ls (.int n :: st)) := by
  subst hpc
  obtain ⟨T', h', cA, X', e', E, A, O, q⟩ := Jvm.RoadKit.newR X hx hZ hown w1 w2 eT (g := mkF m pc Ls (.int n :: st)) rfl hd rfl hn (cap := cap) hcap hb hc hl
  exact Go.of q (K T' h' _ cA rfl X' e' E ((Arv.new A hn).pad (pad_rep [] _ u)) O)
theorem Go.newRA (X : Stand p l e R s m args below meth c T locs cells slots) (hx : p.tables.exec = Jvm.exec) (hZ : Z.Warmed39 s.vm) {own : String} {index : Nat} (hown : s.vm.findClass own = some m.cls) {C : String} {ty : FieldType} {n : Int32} (hC : (FieldType.array ty).toString = C) (w1 : (Cond.classLink own index C).before a0 Z = true) (w2 : (Cond.arrayOver (.array ty)).before a0 Z = true) (eT : T.heap = h) (u : Nat) (hn : ¬ n < 0) (cap : Nat) (hcap : n.toNatClampNeg ≤ cap) (hb : cap * 8 ≤ 536870912) (hc : cells + 1 ≤ R.cells) (hl : slots + cap ≤ R.slots) (hd : decode c.code pc0 = .ok (.anewarray index, 3)) (hpc : pc = pc0)
    (K : ∀ T' h' b k, b = h.size → Stand p l e R s m args below meth c T' locs (cells + 1) (slots + cap) → T'.heap = h' → Ext h h' → Arv Z h' b k (.array ty) n ([] ++ List.replicate u (.null)) (.null) → OvrA Z k ty C → Go p e below P T' (mkF m (pc0 + 3) Ls (.ref b :: st))) : Go p e below P T (mkF m pc Ls (.int n :: st)) := by
  subst hpc
  obtain ⟨T', h', cA, X', e', E, A, -, O, q⟩ := Jvm.RoadKit.newRA X hx hZ hown hC w1 w2 eT (g := mkF m pc Ls (.int n :: st)) rfl hd rfl hn (cap := cap) hcap hb hc hl rfl
  exact Go.of q (K T' h' _ cA rfl X' e' E ((Arv.new A hn).pad (pad_rep [] _ u)) O)
end OwnSteps
theorem own_i32 {k n : Int32} {v : Int} (h : k.toInt = v) (hv : n.toInt = v) : k = n := Int32.toInt_inj.mp (h.trans hv.symm)
theorem own_rem3 (x : Int32) : (x &&& (2147483647 : Int32)) % (3 : Int32) = 0 ∨ (x &&& (2147483647 : Int32)) % (3 : Int32) = 1 ∨ (x &&& (2147483647 : Int32)) % (3 : Int32) = 2 := by
  have e1 : (x &&& (2147483647 : Int32)).toInt = x.toInt % 2 ^ 31 := Jvm.Kit.i32_mask x 2147483647 (k := 31) (by decide) (by decide)
  have e2 := Jvm.Kit.i32_rem_nonneg (x := x &&& (2147483647 : Int32)) (y := 3) (by omega)
  rw [show (3 : Int32).toInt = 3 from by decide] at e2
  generalize (x &&& (2147483647 : Int32)) % (3 : Int32) = k at *
  have e3 : k.toInt = 0 ∨ k.toInt = 1 ∨ k.toInt = 2 := by omega
  rcases e3 with h | h | h
  · exact Or.inl (own_i32 h (by decide))
  · exact Or.inr (Or.inl (own_i32 h (by decide)))
  · exact Or.inr (Or.inr (own_i32 h (by decide)))
theorem pd_0 : parseMethodDescriptor "()V" = some ⟨[], none⟩ := by decide +kernel
theorem pd_1 : parseMethodDescriptor "(J)V" = some ⟨[.long], none⟩ := by decide +kernel
theorem pd_2 : parseMethodDescriptor "()J" = some ⟨[], some .long⟩ := by decide +kernel
theorem pd_3 : parseMethodDescriptor "(J)J" = some ⟨[.long], some .long⟩ := by decide +kernel
theorem pd_4 : parseMethodDescriptor "(I)Z" = some ⟨[.int], some .boolean⟩ := by decide +kernel
theorem pd_5 : parseMethodDescriptor "(II)J" = some ⟨[.int, .int], some .long⟩ := by decide +kernel
theorem pd_6 : parseMethodDescriptor "(II)V" = some ⟨[.int, .int], none⟩ := by decide +kernel
theorem d3_0 : decode prog_30_method_1_code 0 = .ok (.aload_n 0, 1) := by decide +kernel
theorem d3_1 : decode prog_30_method_1_code 1 = .ok (.invokespecial 1, 3) := by decide +kernel
theorem d3_4 : decode prog_30_method_1_code 4 = .ok (.aload_n 0, 1) := by decide +kernel
theorem d3_5 : decode prog_30_method_1_code 5 = .ok (.new 7, 3) := by decide +kernel
theorem d3_8 : decode prog_30_method_1_code 8 = .ok (.dup, 1) := by decide +kernel
theorem d3_9 : decode prog_30_method_1_code 9 = .ok (.invokespecial 9, 3) := by decide +kernel
theorem d3_12 : decode prog_30_method_1_code 12 = .ok (.putfield 10, 3) := by decide +kernel
theorem d3_15 : decode prog_30_method_1_code 15 = .ok (.aload_n 0, 1) := by decide +kernel
theorem d3_16 : decode prog_30_method_1_code 16 = .ok (.getfield 10, 3) := by decide +kernel
theorem d3_19 : decode prog_30_method_1_code 19 = .ok (.ldc2_w 16, 3) := by decide +kernel
theorem d3_22 : decode prog_30_method_1_code 22 = .ok (.invokevirtual 18, 3) := by decide +kernel
theorem d3_25 : decode prog_30_method_1_code 25 = .ok (.return_, 1) := by decide +kernel
theorem pn_3 : plainName "com/example/diktyo/diktyo/analysis/SpanningTree" = true := by first | (simp [plainName, overriddenIn]; done) | decide +kernel
theorem ef_3 (m : MethodId) (x0 : Addr) : entryFrame m #[(.ref x0)] 1 = mkF m 0 #[.val (.ref x0)] [] := by first | (simp [entryFrame, mkF, argsToLocals, Value.category]; done) | rfl
theorem d4_0 : decode prog_14_method_1_code 0 = .ok (.aload_n 0, 1) := by decide +kernel
theorem d4_1 : decode prog_14_method_1_code 1 = .ok (.invokespecial 3, 3) := by decide +kernel
theorem d4_4 : decode prog_14_method_1_code 4 = .ok (.aload_n 0, 1) := by decide +kernel
theorem d4_5 : decode prog_14_method_1_code 5 = .ok (.iconst 1, 1) := by decide +kernel
theorem d4_6 : decode prog_14_method_1_code 6 = .ok (.anewarray 9, 3) := by decide +kernel
theorem d4_9 : decode prog_14_method_1_code 9 = .ok (.putfield 11, 3) := by decide +kernel
theorem d4_12 : decode prog_14_method_1_code 12 = .ok (.return_, 1) := by decide +kernel
theorem pn_4 : plainName "com/example/diktyo/diktyo/analysis/LongPages" = true := by first | (simp [plainName, overriddenIn]; done) | decide +kernel
theorem ef_4 (m : MethodId) (x0 : Addr) : entryFrame m #[(.ref x0)] 1 = mkF m 0 #[.val (.ref x0)] [] := by first | (simp [entryFrame, mkF, argsToLocals, Value.category]; done) | rfl
set_option maxRecDepth 65536 in
set_option maxHeartbeats 40000000 in
theorem lpI (l : Launch) (Z : State) (a0 : Array Value) (hw : ∀ d ∈ tables_1, d.before a0 Z = true) (a : Addr) (h0 : Heap) (O0 : Old Z Z.heap.size h0) (Ea : Exa Z h0 a "com/example/diktyo/diktyo/analysis/LongPages") (ga : Z.heap.size ≤ a) (Fp : Fld Z h0 a "com/example/diktyo/diktyo/analysis/LongPages" "pages" "[[J" .null) (Fs : Fld Z h0 a "com/example/diktyo/diktyo/analysis/LongPages" "size" "J" (.long (0 : Int64))) : Ctr l Z (⟨"com/example/diktyo/diktyo/analysis/LongPages", "<init>", "()V"⟩ : MethodName) prog_14_method_1_code 1 none ({ frames := 1, cells := 1, slots := 1, locals := 12 } : Room) #[(.ref a)] h0 (fun v h L => v = none ∧ Fr Z.heap.size L ∧ Keep h0 h [a] ∧ Exa Z h a "com/example/diktyo/diktyo/analysis/LongPages" ∧ ∃ (b : Addr) (kb : ClassId), h0.size ≤ b ∧ Fld Z h a "com/example/diktyo/diktyo/analysis/LongPages" "pages" "[[J" (.ref b) ∧ Fld Z h a "com/example/diktyo/diktyo/analysis/LongPages" "size" "J" (.long (0 : Int64)) ∧ Arv Z h b kb (.array .long) (1 : Int32) [.null] .null ∧ OvrA Z kb .long "[J") := by
  refine Ctr.of (plainFor_of_name pn_4) ?_
  have wd : ∀ {d : Jvm.Cond} (i : Nat), tables_1[i]? = some d → d.before a0 Z = true := fun i q => hw _ (List.mem_of_getElem? q)
  intro p e s m below meth c s₁ hx hby hml hown hnm hret hlk hZ X0 e0
  refine Go.cast (ef_4 m a) ?_
  show Go p e below _ s₁ (mkF m 0 #[.val (.ref a)] [])
  refine Go.aloadN X0 hx (hb hby d4_0) rfl rfl rfl ?_
  refine Go.initO X0 hx hZ hown (wd 22 rfl) (wd 7 rfl) (wd 8 rfl) e0 (by rw [hml]; rfl) (hb hby d4_1) rfl (Nat.le_of_ble_eq_true rfl) (Nat.le_of_ble_eq_true rfl) ?_
  intro T1 X1 e1
  refine Go.aloadN X1 hx (hb hby d4_4) rfl rfl rfl ?_
  refine Go.iconst X1 hx (hb hby d4_5) rfl (1 : Int32) rfl ?_
  refine Go.newRA X1 hx hZ (ty := .long) hown (by decide) (wd 23 rfl) (wd 24 rfl) e1 1 (by decide) 1 (by decide) (by decide) (Nat.le_of_ble_eq_true rfl) (Nat.le_of_ble_eq_true rfl) (hb hby d4_6) rfl ?_
  intro T2 h2 b2 k2 g2 X2 e2 E2 V2' Ov2
  have V2 : Arv Z h2 b2 k2 (.array .long) (1 : Int32) [.null] .null := V2'
  have q2 : Z.heap.size ≤ b2 := Nat.le_trans O0.2.1 (Nat.le_of_eq g2.symm)
  have z2 : h0.size ≤ b2 := Nat.le_trans (Keep.refl h0 [a]).1 (Nat.le_of_eq g2.symm)
  have ne_a_b2 : a ≠ b2 := Nat.ne_of_lt (Nat.lt_of_lt_of_le Ea.lt (Nat.le_of_eq g2.symm))
  have K3 := (Keep.refl h0 [a]).ext E2
  have O4 := O0.ext E2
  have E5 := Ea.ext E2
  have F6 := Fp.ext E2
  have F7 := Fs.ext E2
  refine Go.putF X2 hx hZ hown (host := "") (Or.inl (wd 25 rfl)) Via.refl e2 F6 E5 (Or.inl (wd 26 rfl)) (wd 17 rfl) (ty := (.array (.array .long))) (by decide) rfl rfl (hb hby d4_9) rfl ?_
  intro T8 h8 X8 e8 W8 F9
  have K10 := K3.wr W8 (Or.inl (List.mem_of_getElem? (i := 0) rfl))
  have O11 := O4.wr W8 ga
  have N12 := Fr.snoc X8 (Fr.nil _) ga
  have E13 := E5.wr W8
  have F14 := F7.other W8 (Or.inr (slot_ne (Or.inl (wd 36 rfl)) (Or.inl (wd 26 rfl)) (by decide) (t := .long) (t' := (.array (.array .long))) (by decide) (by decide)))
  have V15 := V2.other W8 (Ne.symm ne_a_b2)
  exact Go.retV X8 hx hret hlk (hb hby d4_12) rfl (by rw [e8]; exact ⟨rfl, N12, K10, E13, ⟨b2, k2, z2, F9, F14, V15, Ov2⟩⟩) (Nat.le_of_ble_eq_true rfl) (Nat.le_of_ble_eq_true rfl)
theorem d5_0 : decode prog_14_method_3_code 0 = .ok (.aload_n 0, 1) := by decide +kernel
theorem d5_1 : decode prog_14_method_3_code 1 = .ok (.getfield 15, 3) := by decide +kernel
theorem d5_4 : decode prog_14_method_3_code 4 = .ok (.bipush 16, 2) := by decide +kernel
theorem d5_6 : decode prog_14_method_3_code 6 = .ok (.lushr, 1) := by decide +kernel
theorem d5_7 : decode prog_14_method_3_code 7 = .ok (.l2i, 1) := by decide +kernel
theorem d5_8 : decode prog_14_method_3_code 8 = .ok (.istore_n 3, 1) := by decide +kernel
theorem d5_9 : decode prog_14_method_3_code 9 = .ok (.iload_n 3, 1) := by decide +kernel
theorem d5_10 : decode prog_14_method_3_code 10 = .ok (.aload_n 0, 1) := by decide +kernel
theorem d5_11 : decode prog_14_method_3_code 11 = .ok (.getfield 11, 3) := by decide +kernel
theorem d5_14 : decode prog_14_method_3_code 14 = .ok (.arraylength, 1) := by decide +kernel
theorem d5_15 : decode prog_14_method_3_code 15 = .ok (.if_icmp .ne 20, 3) := by decide +kernel
theorem d5_18 : decode prog_14_method_3_code 18 = .ok (.aload_n 0, 1) := by decide +kernel
theorem d5_19 : decode prog_14_method_3_code 19 = .ok (.aload_n 0, 1) := by decide +kernel
theorem d5_20 : decode prog_14_method_3_code 20 = .ok (.getfield 11, 3) := by decide +kernel
theorem d5_23 : decode prog_14_method_3_code 23 = .ok (.iconst 2, 1) := by decide +kernel
theorem d5_24 : decode prog_14_method_3_code 24 = .ok (.iload_n 3, 1) := by decide +kernel
theorem d5_25 : decode prog_14_method_3_code 25 = .ok (.imul, 1) := by decide +kernel
theorem d5_26 : decode prog_14_method_3_code 26 = .ok (.invokestatic 19, 3) := by decide +kernel
theorem d5_29 : decode prog_14_method_3_code 29 = .ok (.checkcast 25, 3) := by decide +kernel
theorem d5_32 : decode prog_14_method_3_code 32 = .ok (.putfield 11, 3) := by decide +kernel
theorem d5_35 : decode prog_14_method_3_code 35 = .ok (.aload_n 0, 1) := by decide +kernel
theorem d5_36 : decode prog_14_method_3_code 36 = .ok (.getfield 11, 3) := by decide +kernel
theorem d5_39 : decode prog_14_method_3_code 39 = .ok (.iload_n 3, 1) := by decide +kernel
theorem d5_40 : decode prog_14_method_3_code 40 = .ok (.aaload, 1) := by decide +kernel
theorem d5_41 : decode prog_14_method_3_code 41 = .ok (.ifnonnull 13, 3) := by decide +kernel
theorem d5_44 : decode prog_14_method_3_code 44 = .ok (.aload_n 0, 1) := by decide +kernel
theorem d5_45 : decode prog_14_method_3_code 45 = .ok (.getfield 11, 3) := by decide +kernel
theorem d5_48 : decode prog_14_method_3_code 48 = .ok (.iload_n 3, 1) := by decide +kernel
theorem d5_49 : decode prog_14_method_3_code 49 = .ok (.ldc 26, 2) := by decide +kernel
theorem d5_51 : decode prog_14_method_3_code 51 = .ok (.newarray .long, 2) := by decide +kernel
theorem d5_53 : decode prog_14_method_3_code 53 = .ok (.aastore, 1) := by decide +kernel
theorem d5_54 : decode prog_14_method_3_code 54 = .ok (.aload_n 0, 1) := by decide +kernel
theorem d5_55 : decode prog_14_method_3_code 55 = .ok (.getfield 11, 3) := by decide +kernel
theorem d5_58 : decode prog_14_method_3_code 58 = .ok (.iload_n 3, 1) := by decide +kernel
theorem d5_59 : decode prog_14_method_3_code 59 = .ok (.aaload, 1) := by decide +kernel
theorem d5_60 : decode prog_14_method_3_code 60 = .ok (.aload_n 0, 1) := by decide +kernel
theorem d5_61 : decode prog_14_method_3_code 61 = .ok (.getfield 15, 3) := by decide +kernel
theorem d5_64 : decode prog_14_method_3_code 64 = .ok (.l2i, 1) := by decide +kernel
theorem d5_65 : decode prog_14_method_3_code 65 = .ok (.ldc 27, 2) := by decide +kernel
theorem d5_67 : decode prog_14_method_3_code 67 = .ok (.iand, 1) := by decide +kernel
theorem d5_68 : decode prog_14_method_3_code 68 = .ok (.lload_n 1, 1) := by decide +kernel
theorem d5_69 : decode prog_14_method_3_code 69 = .ok (.lastore, 1) := by decide +kernel
theorem d5_70 : decode prog_14_method_3_code 70 = .ok (.aload_n 0, 1) := by decide +kernel
theorem d5_71 : decode prog_14_method_3_code 71 = .ok (.dup, 1) := by decide +kernel
theorem d5_72 : decode prog_14_method_3_code 72 = .ok (.getfield 15, 3) := by decide +kernel
theorem d5_75 : decode prog_14_method_3_code 75 = .ok (.lconst 1, 1) := by decide +kernel
theorem d5_76 : decode prog_14_method_3_code 76 = .ok (.ladd, 1) := by decide +kernel
theorem d5_77 : decode prog_14_method_3_code 77 = .ok (.putfield 15, 3) := by decide +kernel
theorem d5_80 : decode prog_14_method_3_code 80 = .ok (.return_, 1) := by decide +kernel
theorem ef_5 (m : MethodId) (x0 : Addr) (x1 : Int64) : entryFrame m #[(.ref x0), (.long x1)] 4 = mkF m 0 #[.val (.ref x0), .val (.long x1), .second, .unset] [] := by first | (simp [entryFrame, mkF, argsToLocals, Value.category]; done) | rfl
set_option maxRecDepth 65536 in
set_option maxHeartbeats 40000000 in
theorem lpA0 (l : Launch) (Z : State) (a0 : Array Value) (hw : ∀ d ∈ tables_1, d.before a0 Z = true) (a b : Addr) (kb : ClassId) (v : Int64) (h0 : Heap) (O0 : Old Z Z.heap.size h0) (Ea : Exa Z h0 a "com/example/diktyo/diktyo/analysis/LongPages") (ga : Z.heap.size ≤ a) (gb : Z.heap.size ≤ b) (nab : a ≠ b) (Fp : Fld Z h0 a "com/example/diktyo/diktyo/analysis/LongPages" "pages" "[[J" (.ref b)) (Fs : Fld Z h0 a "com/example/diktyo/diktyo/analysis/LongPages" "size" "J" (.long (0 : Int64))) (Vb : Arv Z h0 b kb (.array .long) (1 : Int32) [.null] .null) (Ov : OvrA Z kb .long "[J") : Ctr l Z (⟨"com/example/diktyo/diktyo/analysis/LongPages", "add", "(J)V"⟩ : MethodName) prog_14_method_3_code 4 none ({ frames := 0, cells := 1, slots := 65536, locals := 0 } : Room) #[(.ref a), (.long v)] h0 (fun v' h L => v' = none ∧ Fr Z.heap.size L ∧ Keep h0 h [a, b] ∧ Exa Z h a "com/example/diktyo/diktyo/analysis/LongPages" ∧ ∃ (g : Addr) (kp : ClassId), h0.size ≤ g ∧ Fld Z h a "com/example/diktyo/diktyo/analysis/LongPages" "pages" "[[J" (.ref b) ∧ Fld Z h a "com/example/diktyo/diktyo/analysis/LongPages" "size" "J" (.long (1 : Int64)) ∧ Arv Z h b kb (.array .long) (1 : Int32) [(.ref g)] .null ∧ Arv Z h g kp .long (65536 : Int32) [(.long v), (.long (0 : Int64)), (.long (0 : Int64)), (.long (0 : Int64)), (.long (0 : Int64)), (.long (0 : Int64))] (.long (0 : Int64))) := by
  refine Ctr.of (plainFor_of_name pn_4) ?_
  have wd : ∀ {d : Jvm.Cond} (i : Nat), tables_1[i]? = some d → d.before a0 Z = true := fun i q => hw _ (List.mem_of_getElem? q)
  intro p e s m below meth c s₁ hx hby hml hown hnm hret hlk hZ X0 e0
  refine Go.cast (ef_5 m a v) ?_
  show Go p e below _ s₁ (mkF m 0 #[.val (.ref a), .val (.long v), .second, .unset] [])
  refine Go.aloadN X0 hx (hb hby d5_0) rfl rfl rfl ?_
  refine Go.getF X0 hx hZ hown (host := "") (Or.inl (wd 35 rfl)) Via.refl e0 Fs (hb hby d5_1) rfl ?_
  intro T1 X1 e1
  refine Go.bipush X1 hx (hb hby d5_4) rfl (16 : Int32) rfl ?_
  refine Go.lushr X1 hx (hb hby d5_6) rfl ?_
  show Go p e below _ T1 (mkF m 7 #[.val (.ref a), .val (.long v), .second, .unset] [(.long ((((0 : Int64)).toUInt64 >>> ((16 : Int32) &&& 0x3f).toInt64.toUInt64).toInt64))])
  rw [show ((((0 : Int64)).toUInt64 >>> ((16 : Int32) &&& 0x3f).toInt64.toUInt64).toInt64) = (0 : Int64) from by decide]
  refine Go.l2i X1 hx (hb hby d5_7) rfl ?_
  show Go p e below _ T1 (mkF m 8 #[.val (.ref a), .val (.long v), .second, .unset] [(.int (((0 : Int64)).toInt32))])
  rw [show (((0 : Int64)).toInt32) = (0 : Int32) from by decide]
  refine Go.istoreN X1 hx (hb hby d5_8) rfl  #[.val (.ref a), .val (.long v), .second, .val (.int (0 : Int32))] rfl ?_
  refine Go.iloadN X1 hx (hb hby d5_9) rfl rfl  ?_
  refine Go.aloadN X1 hx (hb hby d5_10) rfl rfl rfl ?_
  refine Go.getF X1 hx hZ hown (host := "") (Or.inl (wd 25 rfl)) Via.refl e1 Fp (hb hby d5_11) rfl ?_
  intro T2 X2 e2
  refine Go.alen X2 hx hZ Vb e2 (hb hby d5_14) rfl ?_
  refine Go.icmpYes X2 hx (hb hby d5_15) rfl 35 (feq (by decide : ¬ ((0 : Int32) = (1 : Int32)))).2 (by decide) (by decide) ?_
  refine Go.aloadN X2 hx (hb hby d5_35) rfl rfl rfl ?_
  refine Go.getF X2 hx hZ hown (host := "") (Or.inl (wd 25 rfl)) Via.refl e2 Fp (hb hby d5_36) rfl ?_
  intro T3 X3 e3
  refine Go.iloadN X3 hx (hb hby d5_39) rfl rfl  ?_
  refine Go.aaload X3 hx hZ .null Vb e3 rfl ⟨by decide, by decide⟩ rfl (hb hby d5_40) rfl ?_
  refine Go.ifnonnullNo X3 hx (hb hby d5_41) rfl ?_
  refine Go.aloadN X3 hx (hb hby d5_44) rfl rfl rfl ?_
  refine Go.getF X3 hx hZ hown (host := "") (Or.inl (wd 25 rfl)) Via.refl e3 Fp (hb hby d5_45) rfl ?_
  intro T4 X4 e4
  refine Go.iloadN X4 hx (hb hby d5_48) rfl rfl  ?_
  refine Go.ldc X4 hx hZ hown (wd 37 rfl) (hb hby d5_49) rfl ?_
  refine Go.newP X4 hx hZ (wd 38 rfl) e4 6 (by decide) 65536 (by decide) (by decide) (Nat.le_of_ble_eq_true rfl) (Nat.le_of_ble_eq_true rfl) "[J" (by decide) (hb hby d5_51) rfl ?_
  intro T5 h5 b5 k5 g5 X5 e5 E5 V5' A5
  have V5 : Arv Z h5 b5 k5 .long (65536 : Int32) [(.long (0 : Int64)), (.long (0 : Int64)), (.long (0 : Int64)), (.long (0 : Int64)), (.long (0 : Int64)), (.long (0 : Int64))] (.long (0 : Int64)) := V5'
  have q5 : Z.heap.size ≤ b5 := Nat.le_trans O0.2.1 (Nat.le_of_eq g5.symm)
  have z5 : h0.size ≤ b5 := Nat.le_trans (Keep.refl h0 [a, b]).1 (Nat.le_of_eq g5.symm)
  have ne_a_b5 : a ≠ b5 := Nat.ne_of_lt (Nat.lt_of_lt_of_le Ea.lt (Nat.le_of_eq g5.symm))
  have ne_b_b5 : b ≠ b5 := Nat.ne_of_lt (Nat.lt_of_lt_of_le Vb.lt (Nat.le_of_eq g5.symm))
  have K6 := (Keep.refl h0 [a, b]).ext E5
  have O7 := O0.ext E5
  have E8 := Ea.ext E5
  have F9 := Fp.ext E5
  have F10 := Fs.ext E5
  have V11 := Vb.ext E5
  refine Go.aastore X5 hx hZ V11 e5 ⟨by decide, by decide⟩ 0 (by decide) (Nat.le_of_ble_eq_true rfl) rfl rfl (fun _ q1 q2 => Sto.ofVA q1 q2 Ov (Ins.self A5)) (hb hby d5_53) rfl ?_
  intro T12 h12 X12 e12 W12 V12'
  have V12 : Arv Z h12 b kb (.array .long) (1 : Int32) [(.ref b5)] .null := V12'
  have K13 := K6.wr W12 (Or.inl (List.mem_of_getElem? (i := 1) rfl))
  have O14 := O7.wr W12 gb
  have N15 := Fr.snoc X12 (Fr.nil _) gb
  have E16 := E8.wr W12
  have F17 := F9.other W12 (Or.inl nab)
  have F18 := F10.other W12 (Or.inl nab)
  have V19 := V5.other W12 (Ne.symm ne_b_b5)
  have E20 := A5.wr W12
  refine Go.aloadN X12 hx (hb hby d5_54) rfl rfl rfl ?_
  refine Go.getF X12 hx hZ hown (host := "") (Or.inl (wd 25 rfl)) Via.refl e12 F17 (hb hby d5_55) rfl ?_
  intro T21 X21 e21
  refine Go.iloadN X21 hx (hb hby d5_58) rfl rfl  ?_
  refine Go.aaload X21 hx hZ (.ref b5) V12 e21 rfl ⟨by decide, by decide⟩ rfl (hb hby d5_59) rfl ?_
  refine Go.aloadN X21 hx (hb hby d5_60) rfl rfl rfl ?_
  refine Go.getF X21 hx hZ hown (host := "") (Or.inl (wd 35 rfl)) Via.refl e21 F18 (hb hby d5_61) rfl ?_
  intro T22 X22 e22
  refine Go.l2i X22 hx (hb hby d5_64) rfl ?_
  show Go p e below _ T22 (mkF m 65 #[.val (.ref a), .val (.long v), .second, .val (.int (0 : Int32))] [(.int (((0 : Int64)).toInt32)), (.ref b5)])
  rw [show (((0 : Int64)).toInt32) = (0 : Int32) from by decide]
  refine Go.ldc X22 hx hZ hown (wd 40 rfl) (hb hby d5_65) rfl ?_
  refine Go.iand X22 hx (hb hby d5_67) rfl ?_
  show Go p e below _ T22 (mkF m 68 #[.val (.ref a), .val (.long v), .second, .val (.int (0 : Int32))] [(.int ((0 : Int32) &&& (65535 : Int32))), (.ref b5)])
  rw [show ((0 : Int32) &&& (65535 : Int32)) = (0 : Int32) from by decide]
  refine Go.lloadN X22 hx (hb hby d5_68) rfl rfl  ?_
  refine Go.lastore X22 hx hZ V19 e22 ⟨by decide, by decide⟩ 0 (by decide) (Nat.le_of_ble_eq_true rfl)  (hb hby d5_69) rfl ?_
  intro T23 h23 X23 e23 W23 V23'
  have V23 : Arv Z h23 b5 k5 .long (65536 : Int32) [(.long v), (.long (0 : Int64)), (.long (0 : Int64)), (.long (0 : Int64)), (.long (0 : Int64)), (.long (0 : Int64))] (.long (0 : Int64)) := V23'
  have K24 := K13.wr W23 (Or.inr z5)
  have O25 := O14.wr W23 q5
  have N26 := Fr.snoc X23 N15 q5
  have E27 := E16.wr W23
  have F28 := F17.other W23 (Or.inl ne_a_b5)
  have F29 := F18.other W23 (Or.inl ne_a_b5)
  have V30 := V12.other W23 ne_b_b5
  have E31 := E20.wr W23
  refine Go.aloadN X23 hx (hb hby d5_70) rfl rfl rfl ?_
  refine Go.dup X23 hx (hb hby d5_71) rfl rfl ?_
  refine Go.getF X23 hx hZ hown (host := "") (Or.inl (wd 35 rfl)) Via.refl e23 F29 (hb hby d5_72) rfl ?_
  intro T32 X32 e32
  refine Go.lconst X32 hx (hb hby d5_75) rfl (1 : Int64) rfl ?_
  refine Go.ladd X32 hx (hb hby d5_76) rfl ?_
  show Go p e below _ T32 (mkF m 77 #[.val (.ref a), .val (.long v), .second, .val (.int (0 : Int32))] [(.long ((0 : Int64) + (1 : Int64))), (.ref a)])
  rw [show ((0 : Int64) + (1 : Int64)) = (1 : Int64) from by decide]
  refine Go.putF X32 hx hZ hown (host := "") (Or.inl (wd 35 rfl)) Via.refl e32 F29 E27 (Or.inl (wd 36 rfl)) (wd 17 rfl) (ty := .long) (by decide) rfl rfl (hb hby d5_77) rfl ?_
  intro T33 h33 X33 e33 W33 F34
  have K35 := K24.wr W33 (Or.inl (List.mem_of_getElem? (i := 0) rfl))
  have O36 := O25.wr W33 ga
  have N37 := Fr.snoc X33 N26 ga
  have E38 := E27.wr W33
  have F39 := F28.other W33 (Or.inr (slot_ne (Or.inl (wd 26 rfl)) (Or.inl (wd 36 rfl)) (by decide) (t := (.array (.array .long))) (t' := .long) (by decide) (by decide)))
  have V40 := V30.other W33 (Ne.symm nab)
  have V41 := V23.other W33 (Ne.symm ne_a_b5)
  have E42 := E31.wr W33
  exact Go.retV X33 hx hret hlk (hb hby d5_80) rfl (by rw [e33]; exact ⟨rfl, N37, K35, E38, ⟨b5, k5, z5, F39, F34, V40, V41⟩⟩) (Nat.le_of_ble_eq_true rfl) (Nat.le_of_ble_eq_true rfl)
set_option maxRecDepth 65536 in
set_option maxHeartbeats 40000000 in
theorem rmT (l : Launch) (Z : State) (a0 : Array Value) (hw : ∀ d ∈ tables_1, d.before a0 Z = true) (a : Addr) (h0 : Heap) (O0 : Old Z Z.heap.size h0) (Ea : Exa Z h0 a "com/example/diktyo/diktyo/analysis/SpanningTree") (ga : Z.heap.size ≤ a) (Fp : Fld Z h0 a "com/example/diktyo/diktyo/analysis/SpanningTree" "parents" "Lcom/example/diktyo/diktyo/analysis/LongPages;" .null) : Ctr l Z (⟨"com/example/diktyo/diktyo/analysis/SpanningTree", "<init>", "()V"⟩ : MethodName) prog_30_method_1_code 1 none ({ frames := 2, cells := 3, slots := 65539, locals := 26 } : Room) #[(.ref a)] h0 (fun v h L => v = none ∧ Fr Z.heap.size L ∧ Keep h0 h [a]) := by
  refine Ctr.of (plainFor_of_name pn_3) ?_
  have wd : ∀ {d : Jvm.Cond} (i : Nat), tables_1[i]? = some d → d.before a0 Z = true := fun i q => hw _ (List.mem_of_getElem? q)
  intro p e s m below meth c s₁ hx hby hml hown hnm hret hlk hZ X0 e0
  refine Go.cast (ef_3 m a) ?_
  show Go p e below _ s₁ (mkF m 0 #[.val (.ref a)] [])
  refine Go.aloadN X0 hx (hb hby d3_0) rfl rfl rfl ?_
  refine Go.initO X0 hx hZ hown (wd 15 rfl) (wd 7 rfl) (wd 8 rfl) e0 (by rw [hml]; rfl) (hb hby d3_1) rfl (Nat.le_of_ble_eq_true rfl) (Nat.le_of_ble_eq_true rfl) ?_
  intro T1 X1 e1
  refine Go.aloadN X1 hx (hb hby d3_4) rfl rfl rfl ?_
  refine Go.newO X1 hx hZ hown (wd 16 rfl) (wd 17 rfl) (wd 18 rfl) e1 (hb hby d3_5) rfl (Nat.le_of_ble_eq_true rfl) (Nat.le_of_ble_eq_true rfl) ?_
  intro T2 h2 b2 g2 X2 e2 E2 A2 D2
  have F3 : Fld Z h2 b2 "com/example/diktyo/diktyo/analysis/LongPages" "pages" "[[J" .null := D2 (Or.inl (wd 26 rfl)) (ty := (.array (.array .long))) (by decide)
  have F4 : Fld Z h2 b2 "com/example/diktyo/diktyo/analysis/LongPages" "size" "J" (.long (0 : Int64)) := D2 (Or.inl (wd 36 rfl)) (ty := .long) (by decide)
  have q2 : Z.heap.size ≤ b2 := Nat.le_trans O0.2.1 (Nat.le_of_eq g2.symm)
  have z2 : h0.size ≤ b2 := Nat.le_trans (Keep.refl h0 [a]).1 (Nat.le_of_eq g2.symm)
  have ne_a_b2 : a ≠ b2 := Nat.ne_of_lt (Nat.lt_of_lt_of_le Ea.lt (Nat.le_of_eq g2.symm))
  have K5 := (Keep.refl h0 [a]).ext E2
  have O6 := O0.ext E2
  have E7 := Ea.ext E2
  have F8 := Fp.ext E2
  refine Go.dup X2 hx (hb hby d3_8) rfl rfl ?_
  refine Go.callI X2 hx hZ rfl hown (wd 19 rfl) (wd 20 rfl) (wd 18 rfl) (wd 21 rfl) (by decide) [] [(.ref b2), (.ref a)] (lpI l Z a0 hw b2 h2 O6 A2 q2 F3 F4) e2 rfl (by rw [hml]; rfl) pd_0 rfl (hb hby d3_9) (Nat.le_of_ble_eq_true rfl) (Nat.le_of_ble_eq_true rfl) (Nat.le_of_ble_eq_true rfl) (Nat.le_of_ble_eq_true rfl) ?_
  rintro vv9 T9 L9 X9 Q9
  obtain ⟨rfl, N9, K9, E9, b9, k9, sz9, Fp9, Fs9, Vb9, Ov9⟩ := Q9
  have M10 := Fr.app (Fr.nil _) N9
  have q9 : Z.heap.size ≤ b9 := Nat.le_trans O6.2.1 sz9
  have z9 : h0.size ≤ b9 := Nat.le_trans K5.1 sz9
  have ne_a_b9 : a ≠ b9 := Nat.ne_of_lt (Nat.lt_of_lt_of_le E7.lt sz9)
  have ne_b2_b9 : b2 ≠ b9 := Nat.ne_of_lt (Nat.lt_of_lt_of_le A2.lt sz9)
  have O11 := O6.keep K9 (allS q2 (all0))
  have K12 := Keep.trans K5 K9 (allS (Or.inr z2) (all0))
  have E13 := E7.keep K9
  have F14 := F8.keep K9 (ninS ne_a_b2 (nin0))
  have E15 := A2.keep K9
  refine Go.putF X9 hx hZ hown (host := "") (Or.inl (wd 27 rfl)) Via.refl rfl F14 E13 (Or.inr ⟨wd 28 rfl, rfl, hnm⟩) (wd 10 rfl) (ty := (.object "com/example/diktyo/diktyo/analysis/LongPages")) (by decide) rfl rfl (hb hby d3_12) rfl ?_
  intro T16 h16 X16 e16 W16 F17
  have K18 := K12.wr W16 (Or.inl (List.mem_of_getElem? (i := 0) rfl))
  have O19 := O11.wr W16 ga
  have N20 := Fr.snoc X16 M10 ga
  have E21 := E13.wr W16
  have E22 := E9.wr W16
  have F23 := Fp9.other W16 (Or.inl (Ne.symm ne_a_b2))
  have F24 := Fs9.other W16 (Or.inl (Ne.symm ne_a_b2))
  have V25 := Vb9.other W16 (Ne.symm ne_a_b9)
  refine Go.aloadN X16 hx (hb hby d3_15) rfl rfl rfl ?_
  refine Go.getF X16 hx hZ hown (host := "") (Or.inl (wd 27 rfl)) Via.refl e16 F17 (hb hby d3_16) rfl ?_
  intro T26 X26 e26
  refine Go.ldc2_w X26 hx hZ hown (wd 29 rfl) (hb hby d3_19) rfl ?_
  refine Go.callV X26 hx hZ hown (wd 30 rfl) (wd 31 rfl) (notFace_of_selects (args := #[]) (mvT hZ (wd 33 rfl))) (wd 33 rfl) (wd 32 rfl) (wd 18 rfl) (wd 34 rfl) (by decide) [(.long (-1 : Int64))] [] E22 (lpA0 l Z a0 hw b2 b9 k9 (-1 : Int64) h16 O19 E22 q2 q9 ne_b2_b9 F23 F24 V25 Ov9) e26 rfl (by rw [hml]; rfl) pd_1 rfl (hb hby d3_22) (Nat.le_of_ble_eq_true rfl) (Nat.le_of_ble_eq_true rfl) (Nat.le_of_ble_eq_true rfl) (Nat.le_of_ble_eq_true rfl) ?_
  rintro vv27 T27 L27 X27 Q27
  obtain ⟨rfl, N27, K27, E27, g27, k27, sz27, Fp27, Fs27, Vb27, Vg27⟩ := Q27
  have M28 := Fr.app N20 N27
  have q27 : Z.heap.size ≤ g27 := Nat.le_trans O19.2.1 sz27
  have z27 : h0.size ≤ g27 := Nat.le_trans K18.1 sz27
  have ne_a_g27 : a ≠ g27 := Nat.ne_of_lt (Nat.lt_of_lt_of_le E21.lt sz27)
  have ne_b2_g27 : b2 ≠ g27 := Nat.ne_of_lt (Nat.lt_of_lt_of_le E22.lt sz27)
  have ne_b9_g27 : b9 ≠ g27 := Nat.ne_of_lt (Nat.lt_of_lt_of_le V25.lt sz27)
  have O29 := O19.keep K27 (allS q2 (allS q9 (all0)))
  have K30 := Keep.trans K18 K27 (allS (Or.inr z2) (allS (Or.inr z9) (all0)))
  have E31 := E21.keep K27
  have F32 := F17.keep K27 (ninS ne_a_b2 (ninS ne_a_b9 (nin0)))
  have E33 := E22.keep K27
  exact Go.retV X27 hx hret hlk (hb hby d3_25) rfl ⟨rfl, M28, K30⟩ (Nat.le_of_ble_eq_true rfl) (Nat.le_of_ble_eq_true rfl)
theorem d1_0 : decode prog_21_method_1_code 0 = .ok (.aload_n 0, 1) := by decide +kernel
theorem d1_1 : decode prog_21_method_1_code 1 = .ok (.invokespecial 1, 3) := by decide +kernel
theorem d1_4 : decode prog_21_method_1_code 4 = .ok (.aload_n 0, 1) := by decide +kernel
theorem d1_5 : decode prog_21_method_1_code 5 = .ok (.new 7, 3) := by decide +kernel
theorem d1_8 : decode prog_21_method_1_code 8 = .ok (.dup, 1) := by decide +kernel
theorem d1_9 : decode prog_21_method_1_code 9 = .ok (.invokespecial 9, 3) := by decide +kernel
theorem d1_12 : decode prog_21_method_1_code 12 = .ok (.putfield 10, 3) := by decide +kernel
theorem d1_15 : decode prog_21_method_1_code 15 = .ok (.aload_n 0, 1) := by decide +kernel
theorem d1_16 : decode prog_21_method_1_code 16 = .ok (.new 16, 3) := by decide +kernel
theorem d1_19 : decode prog_21_method_1_code 19 = .ok (.dup, 1) := by decide +kernel
theorem d1_20 : decode prog_21_method_1_code 20 = .ok (.invokespecial 18, 3) := by decide +kernel
theorem d1_23 : decode prog_21_method_1_code 23 = .ok (.putfield 19, 3) := by decide +kernel
theorem d1_26 : decode prog_21_method_1_code 26 = .ok (.aload_n 0, 1) := by decide +kernel
theorem d1_27 : decode prog_21_method_1_code 27 = .ok (.new 16, 3) := by decide +kernel
theorem d1_30 : decode prog_21_method_1_code 30 = .ok (.dup, 1) := by decide +kernel
theorem d1_31 : decode prog_21_method_1_code 31 = .ok (.invokespecial 18, 3) := by decide +kernel
theorem d1_34 : decode prog_21_method_1_code 34 = .ok (.putfield 23, 3) := by decide +kernel
theorem d1_37 : decode prog_21_method_1_code 37 = .ok (.return_, 1) := by decide +kernel
theorem pn_1 : plainName "com/example/diktyo/diktyo/analysis/ReachabilityGraph" = true := by first | (simp [plainName, overriddenIn]; done) | decide +kernel
theorem ef_1 (m : MethodId) (x0 : Addr) : entryFrame m #[(.ref x0)] 1 = mkF m 0 #[.val (.ref x0)] [] := by first | (simp [entryFrame, mkF, argsToLocals, Value.category]; done) | rfl
set_option maxRecDepth 65536 in
set_option maxHeartbeats 40000000 in
theorem rmG (l : Launch) (Z : State) (a0 : Array Value) (hw : ∀ d ∈ tables_1, d.before a0 Z = true) (a : Addr) (h0 : Heap) (O0 : Old Z Z.heap.size h0) (Ea : Exa Z h0 a "com/example/diktyo/diktyo/analysis/ReachabilityGraph") (ga : Z.heap.size ≤ a) (Ftree : Fld Z h0 a "com/example/diktyo/diktyo/analysis/ReachabilityGraph" "tree" "Lcom/example/diktyo/diktyo/analysis/SpanningTree;" .null) (FfirstEdges : Fld Z h0 a "com/example/diktyo/diktyo/analysis/ReachabilityGraph" "firstEdges" "Lcom/example/diktyo/diktyo/analysis/LongPages;" .null) (Fedges : Fld Z h0 a "com/example/diktyo/diktyo/analysis/ReachabilityGraph" "edges" "Lcom/example/diktyo/diktyo/analysis/LongPages;" .null) : Ctr l Z (⟨"com/example/diktyo/diktyo/analysis/ReachabilityGraph", "<init>", "()V"⟩ : MethodName) prog_21_method_1_code 1 none ({ frames := 3, cells := 8, slots := 65549, locals := 40 } : Room) #[(.ref a)] h0 (fun v h L => v = none ∧ Fr Z.heap.size L ∧ Keep h0 h [a] ∧ Exa Z h a "com/example/diktyo/diktyo/analysis/ReachabilityGraph" ∧ ∃ (x b : Addr) (k : ClassId) (x' b' : Addr) (k' : ClassId), h0.size ≤ x ∧ h0.size ≤ b ∧ h0.size ≤ x' ∧ h0.size ≤ b' ∧ x ≠ b ∧ x ≠ x' ∧ x ≠ b' ∧ b ≠ x' ∧ b ≠ b' ∧ x' ≠ b' ∧ Fld Z h a "com/example/diktyo/diktyo/analysis/ReachabilityGraph" "firstEdges" "Lcom/example/diktyo/diktyo/analysis/LongPages;" (.ref x) ∧ Fld Z h a "com/example/diktyo/diktyo/analysis/ReachabilityGraph" "edges" "Lcom/example/diktyo/diktyo/analysis/LongPages;" (.ref x') ∧ Exa Z h x "com/example/diktyo/diktyo/analysis/LongPages" ∧ Fld Z h x "com/example/diktyo/diktyo/analysis/LongPages" "pages" "[[J" (.ref b) ∧ Fld Z h x "com/example/diktyo/diktyo/analysis/LongPages" "size" "J" (.long (0 : Int64)) ∧ Arv Z h b k (.array .long) (1 : Int32) [.null] .null ∧ OvrA Z k .long "[J" ∧ Exa Z h x' "com/example/diktyo/diktyo/analysis/LongPages" ∧ Fld Z h x' "com/example/diktyo/diktyo/analysis/LongPages" "pages" "[[J" (.ref b') ∧ Fld Z h x' "com/example/diktyo/diktyo/analysis/LongPages" "size" "J" (.long (0 : Int64)) ∧ Arv Z h b' k' (.array .long) (1 : Int32) [.null] .null ∧ OvrA Z k' .long "[J") := by
  refine Ctr.of (plainFor_of_name pn_1) ?_
  have wd : ∀ {d : Jvm.Cond} (i : Nat), tables_1[i]? = some d → d.before a0 Z = true := fun i q => hw _ (List.mem_of_getElem? q)
  intro p e s m below meth c s₁ hx hby hml hown hnm hret hlk hZ X0 e0
  refine Go.cast (ef_1 m a) ?_
  show Go p e below _ s₁ (mkF m 0 #[.val (.ref a)] [])
  refine Go.aloadN X0 hx (hb hby d1_0) rfl rfl rfl ?_
  refine Go.initO X0 hx hZ hown (wd 6 rfl) (wd 7 rfl) (wd 8 rfl) e0 (by rw [hml]; rfl) (hb hby d1_1) rfl (Nat.le_of_ble_eq_true rfl) (Nat.le_of_ble_eq_true rfl) ?_
  intro T1 X1 e1
  refine Go.aloadN X1 hx (hb hby d1_4) rfl rfl rfl ?_
  refine Go.newO X1 hx hZ hown (wd 9 rfl) (wd 10 rfl) (wd 11 rfl) e1 (hb hby d1_5) rfl (Nat.le_of_ble_eq_true rfl) (Nat.le_of_ble_eq_true rfl) ?_
  intro T2 h2 b2 g2 X2 e2 E2 A2 D2
  have F3 : Fld Z h2 b2 "com/example/diktyo/diktyo/analysis/SpanningTree" "parents" "Lcom/example/diktyo/diktyo/analysis/LongPages;" .null := D2 (Or.inr (wd 28 rfl)) (ty := (.object "com/example/diktyo/diktyo/analysis/LongPages")) (by decide)
  have q2 : Z.heap.size ≤ b2 := Nat.le_trans O0.2.1 (Nat.le_of_eq g2.symm)
  have z2 : h0.size ≤ b2 := Nat.le_trans (Keep.refl h0 [a]).1 (Nat.le_of_eq g2.symm)
  have ne_a_b2 : a ≠ b2 := Nat.ne_of_lt (Nat.lt_of_lt_of_le Ea.lt (Nat.le_of_eq g2.symm))
  have K4 := (Keep.refl h0 [a]).ext E2
  have O5 := O0.ext E2
  have E6 := Ea.ext E2
  have F7 := Ftree.ext E2
  have F8 := FfirstEdges.ext E2
  have F9 := Fedges.ext E2
  refine Go.dup X2 hx (hb hby d1_8) rfl rfl ?_
  refine Go.callI X2 hx hZ rfl hown (wd 12 rfl) (wd 13 rfl) (wd 11 rfl) (wd 14 rfl) (by decide) [] [(.ref b2), (.ref a)] (rmT l Z a0 hw b2 h2 O5 A2 q2 F3) e2 rfl (by rw [hml]; rfl) pd_0 rfl (hb hby d1_9) (Nat.le_of_ble_eq_true rfl) (Nat.le_of_ble_eq_true rfl) (Nat.le_of_ble_eq_true rfl) (Nat.le_of_ble_eq_true rfl) ?_
  rintro vv10 T10 L10 X10 Q10
  obtain ⟨rfl, N10, K10⟩ := Q10
  have M11 := Fr.app (Fr.nil _) N10
  have O12 := O5.keep K10 (allS q2 (all0))
  have K13 := Keep.trans K4 K10 (allS (Or.inr z2) (all0))
  have E14 := E6.keep K10
  have F15 := F7.keep K10 (ninS ne_a_b2 (nin0))
  have F16 := F8.keep K10 (ninS ne_a_b2 (nin0))
  have F17 := F9.keep K10 (ninS ne_a_b2 (nin0))
  have E18 := A2.keep K10
  refine Go.putF X10 hx hZ hown (host := "") (Or.inl (wd 41 rfl)) Via.refl rfl F15 E14 (Or.inr ⟨wd 42 rfl, rfl, hnm⟩) (wd 1 rfl) (ty := (.object "com/example/diktyo/diktyo/analysis/SpanningTree")) (by decide) rfl rfl (hb hby d1_12) rfl ?_
  intro T19 h19 X19 e19 W19 F20
  have K21 := K13.wr W19 (Or.inl (List.mem_of_getElem? (i := 0) rfl))
  have O22 := O12.wr W19 ga
  have N23 := Fr.snoc X19 M11 ga
  have E24 := E14.wr W19
  have F25 := F16.other W19 (Or.inr (slot_ne (Or.inr (wd 46 rfl)) (Or.inr (wd 42 rfl)) (by decide) (t := (.object "com/example/diktyo/diktyo/analysis/LongPages")) (t' := (.object "com/example/diktyo/diktyo/analysis/SpanningTree")) (by decide) (by decide)))
  have F26 := F17.other W19 (Or.inr (slot_ne (Or.inr (wd 48 rfl)) (Or.inr (wd 42 rfl)) (by decide) (t := (.object "com/example/diktyo/diktyo/analysis/LongPages")) (t' := (.object "com/example/diktyo/diktyo/analysis/SpanningTree")) (by decide) (by decide)))
  have E27 := E18.wr W19
  refine Go.aloadN X19 hx (hb hby d1_15) rfl rfl rfl ?_
  refine Go.newO X19 hx hZ hown (wd 43 rfl) (wd 17 rfl) (wd 18 rfl) e19 (hb hby d1_16) rfl (Nat.le_of_ble_eq_true rfl) (Nat.le_of_ble_eq_true rfl) ?_
  intro T28 h28 b28 g28 X28 e28 E28 A28 D28
  have F29 : Fld Z h28 b28 "com/example/diktyo/diktyo/analysis/LongPages" "pages" "[[J" .null := D28 (Or.inl (wd 26 rfl)) (ty := (.array (.array .long))) (by decide)
  have F30 : Fld Z h28 b28 "com/example/diktyo/diktyo/analysis/LongPages" "size" "J" (.long (0 : Int64)) := D28 (Or.inl (wd 36 rfl)) (ty := .long) (by decide)
  have q28 : Z.heap.size ≤ b28 := Nat.le_trans O22.2.1 (Nat.le_of_eq g28.symm)
  have z28 : h0.size ≤ b28 := Nat.le_trans K21.1 (Nat.le_of_eq g28.symm)
  have ne_a_b28 : a ≠ b28 := Nat.ne_of_lt (Nat.lt_of_lt_of_le E24.lt (Nat.le_of_eq g28.symm))
  have ne_b2_b28 : b2 ≠ b28 := Nat.ne_of_lt (Nat.lt_of_lt_of_le E27.lt (Nat.le_of_eq g28.symm))
  have K31 := K21.ext E28
  have O32 := O22.ext E28
  have E33 := E24.ext E28
  have F34 := F20.ext E28
  have F35 := F25.ext E28
  have F36 := F26.ext E28
  have E37 := E27.ext E28
  refine Go.dup X28 hx (hb hby d1_19) rfl rfl ?_
  refine Go.callI X28 hx hZ rfl hown (wd 44 rfl) (wd 20 rfl) (wd 18 rfl) (wd 21 rfl) (by decide) [] [(.ref b28), (.ref a)] (lpI l Z a0 hw b28 h28 O32 A28 q28 F29 F30) e28 rfl (by rw [hml]; rfl) pd_0 rfl (hb hby d1_20) (Nat.le_of_ble_eq_true rfl) (Nat.le_of_ble_eq_true rfl) (Nat.le_of_ble_eq_true rfl) (Nat.le_of_ble_eq_true rfl) ?_
  rintro vv38 T38 L38 X38 Q38
  obtain ⟨rfl, N38, K38, E38, b38, k38, sz38, Fp38, Fs38, Vb38, Ov38⟩ := Q38
  have M39 := Fr.app N23 N38
  have q38 : Z.heap.size ≤ b38 := Nat.le_trans O32.2.1 sz38
  have z38 : h0.size ≤ b38 := Nat.le_trans K31.1 sz38
  have ne_a_b38 : a ≠ b38 := Nat.ne_of_lt (Nat.lt_of_lt_of_le E33.lt sz38)
  have ne_b2_b38 : b2 ≠ b38 := Nat.ne_of_lt (Nat.lt_of_lt_of_le E37.lt sz38)
  have ne_b28_b38 : b28 ≠ b38 := Nat.ne_of_lt (Nat.lt_of_lt_of_le A28.lt sz38)
  have O40 := O32.keep K38 (allS q28 (all0))
  have K41 := Keep.trans K31 K38 (allS (Or.inr z28) (all0))
  have E42 := E33.keep K38
  have F43 := F34.keep K38 (ninS ne_a_b28 (nin0))
  have F44 := F35.keep K38 (ninS ne_a_b28 (nin0))
  have F45 := F36.keep K38 (ninS ne_a_b28 (nin0))
  have E46 := E37.keep K38
  have E47 := A28.keep K38
  refine Go.putF X38 hx hZ hown (host := "") (Or.inl (wd 45 rfl)) Via.refl rfl F44 E42 (Or.inr ⟨wd 46 rfl, rfl, hnm⟩) (wd 1 rfl) (ty := (.object "com/example/diktyo/diktyo/analysis/LongPages")) (by decide) rfl rfl (hb hby d1_23) rfl ?_
  intro T48 h48 X48 e48 W48 F49
  have K50 := K41.wr W48 (Or.inl (List.mem_of_getElem? (i := 0) rfl))
  have O51 := O40.wr W48 ga
  have N52 := Fr.snoc X48 M39 ga
  have E53 := E42.wr W48
  have F54 := F43.other W48 (Or.inr (slot_ne (Or.inr (wd 42 rfl)) (Or.inr (wd 46 rfl)) (by decide) (t := (.object "com/example/diktyo/diktyo/analysis/SpanningTree")) (t' := (.object "com/example/diktyo/diktyo/analysis/LongPages")) (by decide) (by decide)))
  have F55 := F45.other W48 (Or.inr (slot_ne (Or.inr (wd 48 rfl)) (Or.inr (wd 46 rfl)) (by decide) (t := (.object "com/example/diktyo/diktyo/analysis/LongPages")) (t' := (.object "com/example/diktyo/diktyo/analysis/LongPages")) (by decide) (by decide)))
  have E56 := E46.wr W48
  have E57 := E38.wr W48
  have F58 := Fp38.other W48 (Or.inl (Ne.symm ne_a_b28))
  have F59 := Fs38.other W48 (Or.inl (Ne.symm ne_a_b28))
  have V60 := Vb38.other W48 (Ne.symm ne_a_b38)
  refine Go.aloadN X48 hx (hb hby d1_26) rfl rfl rfl ?_
  refine Go.newO X48 hx hZ hown (wd 43 rfl) (wd 17 rfl) (wd 18 rfl) e48 (hb hby d1_27) rfl (Nat.le_of_ble_eq_true rfl) (Nat.le_of_ble_eq_true rfl) ?_
  intro T61 h61 b61 g61 X61 e61 E61 A61 D61
  have F62 : Fld Z h61 b61 "com/example/diktyo/diktyo/analysis/LongPages" "pages" "[[J" .null := D61 (Or.inl (wd 26 rfl)) (ty := (.array (.array .long))) (by decide)
  have F63 : Fld Z h61 b61 "com/example/diktyo/diktyo/analysis/LongPages" "size" "J" (.long (0 : Int64)) := D61 (Or.inl (wd 36 rfl)) (ty := .long) (by decide)
  have q61 : Z.heap.size ≤ b61 := Nat.le_trans O51.2.1 (Nat.le_of_eq g61.symm)
  have z61 : h0.size ≤ b61 := Nat.le_trans K50.1 (Nat.le_of_eq g61.symm)
  have ne_a_b61 : a ≠ b61 := Nat.ne_of_lt (Nat.lt_of_lt_of_le E53.lt (Nat.le_of_eq g61.symm))
  have ne_b2_b61 : b2 ≠ b61 := Nat.ne_of_lt (Nat.lt_of_lt_of_le E56.lt (Nat.le_of_eq g61.symm))
  have ne_b28_b61 : b28 ≠ b61 := Nat.ne_of_lt (Nat.lt_of_lt_of_le E57.lt (Nat.le_of_eq g61.symm))
  have ne_b38_b61 : b38 ≠ b61 := Nat.ne_of_lt (Nat.lt_of_lt_of_le V60.lt (Nat.le_of_eq g61.symm))
  have K64 := K50.ext E61
  have O65 := O51.ext E61
  have E66 := E53.ext E61
  have F67 := F54.ext E61
  have F68 := F49.ext E61
  have F69 := F55.ext E61
  have E70 := E56.ext E61
  have E71 := E57.ext E61
  have F72 := F58.ext E61
  have F73 := F59.ext E61
  have V74 := V60.ext E61
  refine Go.dup X61 hx (hb hby d1_30) rfl rfl ?_
  refine Go.callI X61 hx hZ rfl hown (wd 44 rfl) (wd 20 rfl) (wd 18 rfl) (wd 21 rfl) (by decide) [] [(.ref b61), (.ref a)] (lpI l Z a0 hw b61 h61 O65 A61 q61 F62 F63) e61 rfl (by rw [hml]; rfl) pd_0 rfl (hb hby d1_31) (Nat.le_of_ble_eq_true rfl) (Nat.le_of_ble_eq_true rfl) (Nat.le_of_ble_eq_true rfl) (Nat.le_of_ble_eq_true rfl) ?_
  rintro vv75 T75 L75 X75 Q75
  obtain ⟨rfl, N75, K75, E75, b75, k75, sz75, Fp75, Fs75, Vb75, Ov75⟩ := Q75
  have M76 := Fr.app N52 N75
  have q75 : Z.heap.size ≤ b75 := Nat.le_trans O65.2.1 sz75
  have z75 : h0.size ≤ b75 := Nat.le_trans K64.1 sz75
  have ne_a_b75 : a ≠ b75 := Nat.ne_of_lt (Nat.lt_of_lt_of_le E66.lt sz75)
  have ne_b2_b75 : b2 ≠ b75 := Nat.ne_of_lt (Nat.lt_of_lt_of_le E70.lt sz75)
  have ne_b28_b75 : b28 ≠ b75 := Nat.ne_of_lt (Nat.lt_of_lt_of_le E71.lt sz75)
  have ne_b38_b75 : b38 ≠ b75 := Nat.ne_of_lt (Nat.lt_of_lt_of_le V74.lt sz75)
  have ne_b61_b75 : b61 ≠ b75 := Nat.ne_of_lt (Nat.lt_of_lt_of_le A61.lt sz75)
  have O77 := O65.keep K75 (allS q61 (all0))
  have K78 := Keep.trans K64 K75 (allS (Or.inr z61) (all0))
  have E79 := E66.keep K75
  have F80 := F67.keep K75 (ninS ne_a_b61 (nin0))
  have F81 := F68.keep K75 (ninS ne_a_b61 (nin0))
  have F82 := F69.keep K75 (ninS ne_a_b61 (nin0))
  have E83 := E70.keep K75
  have E84 := E71.keep K75
  have F85 := F72.keep K75 (ninS ne_b28_b61 (nin0))
  have F86 := F73.keep K75 (ninS ne_b28_b61 (nin0))
  have V87 := V74.keep K75 (ninS ne_b38_b61 (nin0))
  have E88 := A61.keep K75
  refine Go.putF X75 hx hZ hown (host := "") (Or.inl (wd 47 rfl)) Via.refl rfl F82 E79 (Or.inr ⟨wd 48 rfl, rfl, hnm⟩) (wd 1 rfl) (ty := (.object "com/example/diktyo/diktyo/analysis/LongPages")) (by decide) rfl rfl (hb hby d1_34) rfl ?_
  intro T89 h89 X89 e89 W89 F90
  have K91 := K78.wr W89 (Or.inl (List.mem_of_getElem? (i := 0) rfl))
  have O92 := O77.wr W89 ga
  have N93 := Fr.snoc X89 M76 ga
  have E94 := E79.wr W89
  have F95 := F80.other W89 (Or.inr (slot_ne (Or.inr (wd 42 rfl)) (Or.inr (wd 48 rfl)) (by decide) (t := (.object "com/example/diktyo/diktyo/analysis/SpanningTree")) (t' := (.object "com/example/diktyo/diktyo/analysis/LongPages")) (by decide) (by decide)))
  have F96 := F81.other W89 (Or.inr (slot_ne (Or.inr (wd 46 rfl)) (Or.inr (wd 48 rfl)) (by decide) (t := (.object "com/example/diktyo/diktyo/analysis/LongPages")) (t' := (.object "com/example/diktyo/diktyo/analysis/LongPages")) (by decide) (by decide)))
  have E97 := E83.wr W89
  have E98 := E84.wr W89
  have F99 := F85.other W89 (Or.inl (Ne.symm ne_a_b28))
  have F100 := F86.other W89 (Or.inl (Ne.symm ne_a_b28))
  have V101 := V87.other W89 (Ne.symm ne_a_b38)
  have E102 := E75.wr W89
  have F103 := Fp75.other W89 (Or.inl (Ne.symm ne_a_b61))
  have F104 := Fs75.other W89 (Or.inl (Ne.symm ne_a_b61))
  have V105 := Vb75.other W89 (Ne.symm ne_a_b75)
  exact Go.retV X89 hx hret hlk (hb hby d1_37) rfl (by rw [e89]; exact ⟨rfl, N93, K91, E94, b28, b38, k38, b61, b75, k75, z28, z38, z61, z75, ne_b28_b38, ne_b28_b61, ne_b28_b75, ne_b38_b61, ne_b38_b75, ne_b61_b75, F96, F90, E98, F99, F100, V101, Ov38, E102, F103, F104, V105, Ov75⟩) (Nat.le_of_ble_eq_true rfl) (Nat.le_of_ble_eq_true rfl)
theorem d12_0 : decode prog_21_method_10_code 0 = .ok (.iload_n 0, 1) := by decide +kernel
theorem d12_1 : decode prog_21_method_10_code 1 = .ok (.i2l, 1) := by decide +kernel
theorem d12_2 : decode prog_21_method_10_code 2 = .ok (.bipush 32, 2) := by decide +kernel
theorem d12_4 : decode prog_21_method_10_code 4 = .ok (.lshl, 1) := by decide +kernel
theorem d12_5 : decode prog_21_method_10_code 5 = .ok (.iload_n 1, 1) := by decide +kernel
theorem d12_6 : decode prog_21_method_10_code 6 = .ok (.i2l, 1) := by decide +kernel
theorem d12_7 : decode prog_21_method_10_code 7 = .ok (.ldc2_w 51, 3) := by decide +kernel
theorem d12_10 : decode prog_21_method_10_code 10 = .ok (.land, 1) := by decide +kernel
theorem d12_11 : decode prog_21_method_10_code 11 = .ok (.lor, 1) := by decide +kernel
theorem d12_12 : decode prog_21_method_10_code 12 = .ok (.lreturn, 1) := by decide +kernel
theorem ef_12 (m : MethodId) (x0 : Int32) (x1 : Int32) : entryFrame m #[(.int x0), (.int x1)] 2 = mkF m 0 #[.val (.int x0), .val (.int x1)] [] := by first | (simp [entryFrame, mkF, argsToLocals, Value.category]; done) | rfl
set_option maxRecDepth 65536 in
set_option maxHeartbeats 40000000 in
theorem rmE (l : Launch) (Z : State) (a0 : Array Value) (hw : ∀ d ∈ tables_1, d.before a0 Z = true) (t r : Int32) (h0 : Heap)  : Pur l Z (⟨"com/example/diktyo/diktyo/analysis/ReachabilityGraph", "edge", "(II)J"⟩ : MethodName) prog_21_method_10_code 2 (some .long) 0 0 #[(.int t), (.int r)] h0 (some (.long ((((t).toInt64) <<< ((32 : Int32) &&& 0x3f).toInt64) ||| (((r).toInt64) &&& (4294967295 : Int64))))) := by
  refine Ctr.of (plainFor_of_name pn_1) ?_
  have wd : ∀ {d : Jvm.Cond} (i : Nat), tables_1[i]? = some d → d.before a0 Z = true := fun i q => hw _ (List.mem_of_getElem? q)
  intro p e s m below meth c s₁ hx hby hml hown hnm hret hlk hZ X0 e0
  refine Go.cast (ef_12 m t r) ?_
  show Go p e below _ s₁ (mkF m 0 #[.val (.int t), .val (.int r)] [])
  refine Go.iloadN X0 hx (hb hby d12_0) rfl rfl  ?_
  refine Go.i2l X0 hx (hb hby d12_1) rfl ?_
  refine Go.bipush X0 hx (hb hby d12_2) rfl (32 : Int32) rfl ?_
  refine Go.lshl X0 hx (hb hby d12_4) rfl ?_
  refine Go.iloadN X0 hx (hb hby d12_5) rfl rfl  ?_
  refine Go.i2l X0 hx (hb hby d12_6) rfl ?_
  refine Go.ldc2_w X0 hx hZ hown (wd 84 rfl) (hb hby d12_7) rfl ?_
  refine Go.land X0 hx (hb hby d12_10) rfl ?_
  refine Go.lor X0 hx (hb hby d12_11) rfl ?_
  exact Go.retJ X0 hx hret hlk (hb hby d12_12) rfl ⟨by first | rfl | simp [], rfl, e0⟩ (Nat.le_of_ble_eq_true rfl) (Nat.le_of_ble_eq_true rfl)
theorem pn_0 : plainName "com/example/diktyo/diktyo/analysis/ReachabilityGraphIsDeadPinLaw" = true := by first | (simp [plainName, overriddenIn]; done) | decide +kernel
theorem ef_0 (m : MethodId) (x0 : Int32) (x1 : Int32) (x2 : Int32) (x3 : Int32) (x4 : Int32) (x5 : Int32) : entryFrame m #[(.int x0), (.int x1), (.int x2), (.int x3), (.int x4), (.int x5)] maxLocals = mkF m 0 #[.val (.int x0), .val (.int x1), .val (.int x2), .val (.int x3), .val (.int x4), .val (.int x5), .unset, .unset, .unset, .unset, .unset, .unset] [] := by first | (simp [entryFrame, mkF, argsToLocals, Value.category, maxLocals]; done) | rfl
theorem d6_0 : decode prog_21_method_3_code 0 = .ok (.aload_n 0, 1) := by decide +kernel
theorem d6_1 : decode prog_21_method_3_code 1 = .ok (.getfield 19, 3) := by decide +kernel
theorem d6_4 : decode prog_21_method_3_code 4 = .ok (.aload_n 0, 1) := by decide +kernel
theorem d6_5 : decode prog_21_method_3_code 5 = .ok (.getfield 23, 3) := by decide +kernel
theorem d6_8 : decode prog_21_method_3_code 8 = .ok (.invokevirtual 26, 3) := by decide +kernel
theorem d6_11 : decode prog_21_method_3_code 11 = .ok (.invokevirtual 30, 3) := by decide +kernel
theorem d6_14 : decode prog_21_method_3_code 14 = .ok (.return_, 1) := by decide +kernel
theorem ef_6 (m : MethodId) (x0 : Addr) : entryFrame m #[(.ref x0)] 1 = mkF m 0 #[.val (.ref x0)] [] := by first | (simp [entryFrame, mkF, argsToLocals, Value.category]; done) | rfl
theorem d7_0 : decode prog_14_method_2_code 0 = .ok (.aload_n 0, 1) := by decide +kernel
theorem d7_1 : decode prog_14_method_2_code 1 = .ok (.getfield 15, 3) := by decide +kernel
theorem d7_4 : decode prog_14_method_2_code 4 = .ok (.lreturn, 1) := by decide +kernel
theorem ef_7 (m : MethodId) (x0 : Addr) : entryFrame m #[(.ref x0)] 1 = mkF m 0 #[.val (.ref x0)] [] := by first | (simp [entryFrame, mkF, argsToLocals, Value.category]; done) | rfl
set_option maxRecDepth 65536 in
set_option maxHeartbeats 40000000 in
theorem lpN (l : Launch) (Z : State) (a0 : Array Value) (hw : ∀ d ∈ tables_1, d.before a0 Z = true) (a : Addr) (n : Int64) (h0 : Heap) (Fs : Fld Z h0 a "com/example/diktyo/diktyo/analysis/LongPages" "size" "J" (.long n)) : Pur l Z (⟨"com/example/diktyo/diktyo/analysis/LongPages", "size", "()J"⟩ : MethodName) prog_14_method_2_code 1 (some .long) 0 0 #[(.ref a)] h0 (some (.long n)) := by
  refine Ctr.of (plainFor_of_name pn_4) ?_
  have wd : ∀ {d : Jvm.Cond} (i : Nat), tables_1[i]? = some d → d.before a0 Z = true := fun i q => hw _ (List.mem_of_getElem? q)
  intro p e s m below meth c s₁ hx hby hml hown hnm hret hlk hZ X0 e0
  refine Go.cast (ef_7 m a) ?_
  show Go p e below _ s₁ (mkF m 0 #[.val (.ref a)] [])
  refine Go.aloadN X0 hx (hb hby d7_0) rfl rfl rfl ?_
  refine Go.getF X0 hx hZ hown (host := "") (Or.inl (wd 35 rfl)) Via.refl e0 Fs (hb hby d7_1) rfl ?_
  intro T1 X1 e1
  exact Go.retJ X1 hx hret hlk (hb hby d7_4) rfl ⟨by first | rfl | simp [], rfl, e1⟩ (Nat.le_of_ble_eq_true rfl) (Nat.le_of_ble_eq_true rfl)
set_option maxRecDepth 65536 in
set_option maxHeartbeats 40000000 in
theorem rm_startEdges_0 (l : Launch) (Z : State) (a0 : Array Value) (hw : ∀ d ∈ tables_1, d.before a0 Z = true) (a x b : Addr) (kb : ClassId) (y : Addr) (n : Int64) (h0 : Heap) (O0 : Old Z Z.heap.size h0) (Fx : Fld Z h0 a "com/example/diktyo/diktyo/analysis/ReachabilityGraph" "firstEdges" "Lcom/example/diktyo/diktyo/analysis/LongPages;" (.ref x)) (Ex : Exa Z h0 x "com/example/diktyo/diktyo/analysis/LongPages") (gx : Z.heap.size ≤ x) (nax : a ≠ x) (nab : a ≠ b) (nxb : x ≠ b) (Fp : Fld Z h0 x "com/example/diktyo/diktyo/analysis/LongPages" "pages" "[[J" (.ref b)) (Fs : Fld Z h0 x "com/example/diktyo/diktyo/analysis/LongPages" "size" "J" (.long (0 : Int64))) (gb : Z.heap.size ≤ b) (Vb : Arv Z h0 b kb (.array .long) (1 : Int32) [.null] .null) (Ov : OvrA Z kb .long "[J") (Fy : Fld Z h0 a "com/example/diktyo/diktyo/analysis/ReachabilityGraph" "edges" "Lcom/example/diktyo/diktyo/analysis/LongPages;" (.ref y)) (Ey : Exa Z h0 y "com/example/diktyo/diktyo/analysis/LongPages") (Fn : Fld Z h0 y "com/example/diktyo/diktyo/analysis/LongPages" "size" "J" (.long n)) (nyx : y ≠ x) (nyb : y ≠ b) : Ctr l Z (⟨"com/example/diktyo/diktyo/analysis/ReachabilityGraph", "startEdges", "()V"⟩ : MethodName) prog_21_method_3_code 1 none ({ frames := 1, cells := 1, slots := 65536, locals := 15 } : Room) #[(.ref a)] h0 (fun v' h L => v' = none ∧ Fr Z.heap.size L ∧ Keep h0 h [x, b] ∧ Exa Z h x "com/example/diktyo/diktyo/analysis/LongPages" ∧ ∃ (g : Addr) (kp : ClassId), h0.size ≤ g ∧ Fld Z h x "com/example/diktyo/diktyo/analysis/LongPages" "pages" "[[J" (.ref b) ∧ Fld Z h x "com/example/diktyo/diktyo/analysis/LongPages" "size" "J" (.long (1 : Int64)) ∧ Arv Z h b kb (.array .long) (1 : Int32) [(.ref g)] .null ∧ Arv Z h g kp .long (65536 : Int32) [(.long n), (.long (0 : Int64)), (.long (0 : Int64)), (.long (0 : Int64)), (.long (0 : Int64)), (.long (0 : Int64))] (.long (0 : Int64))) := by
  refine Ctr.of (plainFor_of_name pn_1) ?_
  have wd : ∀ {d : Jvm.Cond} (i : Nat), tables_1[i]? = some d → d.before a0 Z = true := fun i q => hw _ (List.mem_of_getElem? q)
  intro p e s m below meth c s₁ hx hby hml hown hnm hret hlk hZ X0 e0
  refine Go.cast (ef_6 m a) ?_
  show Go p e below _ s₁ (mkF m 0 #[.val (.ref a)] [])
  refine Go.aloadN X0 hx (hb hby d6_0) rfl rfl rfl ?_
  refine Go.getF X0 hx hZ hown (host := "") (Or.inl (wd 45 rfl)) Via.refl e0 Fx (hb hby d6_1) rfl ?_
  intro T1 X1 e1
  refine Go.aloadN X1 hx (hb hby d6_4) rfl rfl rfl ?_
  refine Go.getF X1 hx hZ hown (host := "") (Or.inl (wd 47 rfl)) Via.refl e1 Fy (hb hby d6_5) rfl ?_
  intro T2 X2 e2
  refine Go.pureV X2 hx hZ hown (wd 54 rfl) (wd 55 rfl) (notFace_of_selects (args := #[]) (mvT hZ (wd 57 rfl))) (wd 57 rfl) (wd 56 rfl) (wd 18 rfl) (wd 58 rfl) (by decide) [] [(.ref x)] Ey (lpN l Z a0 hw y n h0 Fn) e2 rfl (by rw [hml]; rfl) pd_2 rfl (hb hby d6_8) (Nat.le_of_ble_eq_true rfl) (Nat.le_of_ble_eq_true rfl) (Nat.le_of_ble_eq_true rfl) (Nat.le_of_ble_eq_true rfl) ?_
  intro T3 X3 e3
  refine Go.callV X3 hx hZ hown (wd 59 rfl) (wd 31 rfl) (notFace_of_selects (args := #[]) (mvT hZ (wd 33 rfl))) (wd 33 rfl) (wd 32 rfl) (wd 18 rfl) (wd 34 rfl) (by decide) [(.long n)] [] Ex (lpA0 l Z a0 hw x b kb n h0 O0 Ex gx gb nxb Fp Fs Vb Ov) e3 rfl (by rw [hml]; rfl) pd_1 rfl (hb hby d6_11) (Nat.le_of_ble_eq_true rfl) (Nat.le_of_ble_eq_true rfl) (Nat.le_of_ble_eq_true rfl) (Nat.le_of_ble_eq_true rfl) ?_
  rintro vv4 T4 L4 X4 Q4
  obtain ⟨rfl, N4, K4, E4, g4, k4, sz4, Fp4, Fs4, Vb4, Vg4⟩ := Q4
  have M5 := Fr.app (Fr.nil _) N4
  have q4 : Z.heap.size ≤ g4 := Nat.le_trans O0.2.1 sz4
  have z4 : h0.size ≤ g4 := Nat.le_trans (Keep.refl h0 [x, b]).1 sz4
  have ne_a_g4 : a ≠ g4 := Nat.ne_of_lt (Nat.lt_of_lt_of_le Fx.lt sz4)
  have ne_x_g4 : x ≠ g4 := Nat.ne_of_lt (Nat.lt_of_lt_of_le Ex.lt sz4)
  have ne_y_g4 : y ≠ g4 := Nat.ne_of_lt (Nat.lt_of_lt_of_le Ey.lt sz4)
  have ne_b_g4 : b ≠ g4 := Nat.ne_of_lt (Nat.lt_of_lt_of_le Vb.lt sz4)
  have O6 := O0.keep K4 (allS gx (allS gb (all0)))
  have K7 := Keep.trans (Keep.refl h0 [x, b]) K4 (allS (Or.inl (List.mem_of_getElem? (i := 0) rfl)) (allS (Or.inl (List.mem_of_getElem? (i := 1) rfl)) (all0)))
  have F8 := Fx.keep K4 (ninS nax (ninS nab (nin0)))
  have E9 := Ex.keep K4
  have F10 := Fy.keep K4 (ninS nax (ninS nab (nin0)))
  have E11 := Ey.keep K4
  have F12 := Fn.keep K4 (ninS nyx (ninS nyb (nin0)))
  exact Go.retV X4 hx hret hlk (hb hby d6_14) rfl ⟨rfl, M5, K7, E4, g4, k4, z4, Fp4, Fs4, Vb4, Vg4⟩ (Nat.le_of_ble_eq_true rfl) (Nat.le_of_ble_eq_true rfl)
set_option maxRecDepth 65536 in
set_option maxHeartbeats 40000000 in
theorem lpA1 (l : Launch) (Z : State) (a0 : Array Value) (hw : ∀ d ∈ tables_1, d.before a0 Z = true) (a b g : Addr) (kb kp : ClassId) (v v0 v1 v2 v3 v4 v5 : Int64) (h0 : Heap) (O0 : Old Z Z.heap.size h0) (Ea : Exa Z h0 a "com/example/diktyo/diktyo/analysis/LongPages") (ga : Z.heap.size ≤ a) (gg : Z.heap.size ≤ g) (nab : a ≠ b) (nag : a ≠ g) (nbg : b ≠ g) (Fp : Fld Z h0 a "com/example/diktyo/diktyo/analysis/LongPages" "pages" "[[J" (.ref b)) (Fs : Fld Z h0 a "com/example/diktyo/diktyo/analysis/LongPages" "size" "J" (.long (1 : Int64))) (Vb : Arv Z h0 b kb (.array .long) (1 : Int32) [(.ref g)] .null) (Vg : Arv Z h0 g kp .long (65536 : Int32) [(.long v0), (.long v1), (.long v2), (.long v3), (.long v4), (.long v5)] (.long (0 : Int64))) : Ctr l Z (⟨"com/example/diktyo/diktyo/analysis/LongPages", "add", "(J)V"⟩ : MethodName) prog_14_method_3_code 4 none ({ frames := 0, cells := 0, slots := 0, locals := 0 } : Room) #[(.ref a), (.long v)] h0 (fun v' h L => v' = none ∧ Fr Z.heap.size L ∧ Keep h0 h [a, g] ∧ Exa Z h a "com/example/diktyo/diktyo/analysis/LongPages" ∧ Fld Z h a "com/example/diktyo/diktyo/analysis/LongPages" "pages" "[[J" (.ref b) ∧ Fld Z h a "com/example/diktyo/diktyo/analysis/LongPages" "size" "J" (.long (2 : Int64)) ∧ Arv Z h b kb (.array .long) (1 : Int32) [(.ref g)] .null ∧ Arv Z h g kp .long (65536 : Int32) [(.long v0), (.long v), (.long v2), (.long v3), (.long v4), (.long v5)] (.long (0 : Int64))) := by
  refine Ctr.of (plainFor_of_name pn_4) ?_
  have wd : ∀ {d : Jvm.Cond} (i : Nat), tables_1[i]? = some d → d.before a0 Z = true := fun i q => hw _ (List.mem_of_getElem? q)
  intro p e s m below meth c s₁ hx hby hml hown hnm hret hlk hZ X0 e0
  refine Go.cast (ef_5 m a v) ?_
  show Go p e below _ s₁ (mkF m 0 #[.val (.ref a), .val (.long v), .second, .unset] [])
  refine Go.aloadN X0 hx (hb hby d5_0) rfl rfl rfl ?_
  refine Go.getF X0 hx hZ hown (host := "") (Or.inl (wd 35 rfl)) Via.refl e0 Fs (hb hby d5_1) rfl ?_
  intro T1 X1 e1
  refine Go.bipush X1 hx (hb hby d5_4) rfl (16 : Int32) rfl ?_
  refine Go.lushr X1 hx (hb hby d5_6) rfl ?_
  show Go p e below _ T1 (mkF m 7 #[.val (.ref a), .val (.long v), .second, .unset] [(.long ((((1 : Int64)).toUInt64 >>> ((16 : Int32) &&& 0x3f).toInt64.toUInt64).toInt64))])
  rw [show ((((1 : Int64)).toUInt64 >>> ((16 : Int32) &&& 0x3f).toInt64.toUInt64).toInt64) = (0 : Int64) from by decide]
  refine Go.l2i X1 hx (hb hby d5_7) rfl ?_
  show Go p e below _ T1 (mkF m 8 #[.val (.ref a), .val (.long v), .second, .unset] [(.int (((0 : Int64)).toInt32))])
  rw [show (((0 : Int64)).toInt32) = (0 : Int32) from by decide]
  refine Go.istoreN X1 hx (hb hby d5_8) rfl  #[.val (.ref a), .val (.long v), .second, .val (.int (0 : Int32))] rfl ?_
  refine Go.iloadN X1 hx (hb hby d5_9) rfl rfl  ?_
  refine Go.aloadN X1 hx (hb hby d5_10) rfl rfl rfl ?_
  refine Go.getF X1 hx hZ hown (host := "") (Or.inl (wd 25 rfl)) Via.refl e1 Fp (hb hby d5_11) rfl ?_
  intro T2 X2 e2
  refine Go.alen X2 hx hZ Vb e2 (hb hby d5_14) rfl ?_
  refine Go.icmpYes X2 hx (hb hby d5_15) rfl 35 (feq (by decide : ¬ ((0 : Int32) = (1 : Int32)))).2 (by decide) (by decide) ?_
  refine Go.aloadN X2 hx (hb hby d5_35) rfl rfl rfl ?_
  refine Go.getF X2 hx hZ hown (host := "") (Or.inl (wd 25 rfl)) Via.refl e2 Fp (hb hby d5_36) rfl ?_
  intro T3 X3 e3
  refine Go.iloadN X3 hx (hb hby d5_39) rfl rfl  ?_
  refine Go.aaload X3 hx hZ (.ref g) Vb e3 rfl ⟨by decide, by decide⟩ rfl (hb hby d5_40) rfl ?_
  refine Go.ifnonnullYes X3 hx (hb hby d5_41) rfl 54 (by decide) (by decide) ?_
  refine Go.aloadN X3 hx (hb hby d5_54) rfl rfl rfl ?_
  refine Go.getF X3 hx hZ hown (host := "") (Or.inl (wd 25 rfl)) Via.refl e3 Fp (hb hby d5_55) rfl ?_
  intro T4 X4 e4
  refine Go.iloadN X4 hx (hb hby d5_58) rfl rfl  ?_
  refine Go.aaload X4 hx hZ (.ref g) Vb e4 rfl ⟨by decide, by decide⟩ rfl (hb hby d5_59) rfl ?_
  refine Go.aloadN X4 hx (hb hby d5_60) rfl rfl rfl ?_
  refine Go.getF X4 hx hZ hown (host := "") (Or.inl (wd 35 rfl)) Via.refl e4 Fs (hb hby d5_61) rfl ?_
  intro T5 X5 e5
  refine Go.l2i X5 hx (hb hby d5_64) rfl ?_
  show Go p e below _ T5 (mkF m 65 #[.val (.ref a), .val (.long v), .second, .val (.int (0 : Int32))] [(.int (((1 : Int64)).toInt32)), (.ref g)])
  rw [show (((1 : Int64)).toInt32) = (1 : Int32) from by decide]
  refine Go.ldc X5 hx hZ hown (wd 40 rfl) (hb hby d5_65) rfl ?_
  refine Go.iand X5 hx (hb hby d5_67) rfl ?_
  show Go p e below _ T5 (mkF m 68 #[.val (.ref a), .val (.long v), .second, .val (.int (0 : Int32))] [(.int ((1 : Int32) &&& (65535 : Int32))), (.ref g)])
  rw [show ((1 : Int32) &&& (65535 : Int32)) = (1 : Int32) from by decide]
  refine Go.lloadN X5 hx (hb hby d5_68) rfl rfl  ?_
  refine Go.lastore X5 hx hZ Vg e5 ⟨by decide, by decide⟩ 1 (by decide) (Nat.le_of_ble_eq_true rfl)  (hb hby d5_69) rfl ?_
  intro T6 h6 X6 e6 W6 V6'
  have V6 : Arv Z h6 g kp .long (65536 : Int32) [(.long v0), (.long v), (.long v2), (.long v3), (.long v4), (.long v5)] (.long (0 : Int64)) := V6'
  have K7 := (Keep.refl h0 [a, g]).wr W6 (Or.inl (List.mem_of_getElem? (i := 1) rfl))
  have O8 := O0.wr W6 gg
  have N9 := Fr.snoc X6 (Fr.nil _) gg
  have E10 := Ea.wr W6
  have F11 := Fp.other W6 (Or.inl nag)
  have F12 := Fs.other W6 (Or.inl nag)
  have V13 := Vb.other W6 nbg
  refine Go.aloadN X6 hx (hb hby d5_70) rfl rfl rfl ?_
  refine Go.dup X6 hx (hb hby d5_71) rfl rfl ?_
  refine Go.getF X6 hx hZ hown (host := "") (Or.inl (wd 35 rfl)) Via.refl e6 F12 (hb hby d5_72) rfl ?_
  intro T14 X14 e14
  refine Go.lconst X14 hx (hb hby d5_75) rfl (1 : Int64) rfl ?_
  refine Go.ladd X14 hx (hb hby d5_76) rfl ?_
  show Go p e below _ T14 (mkF m 77 #[.val (.ref a), .val (.long v), .second, .val (.int (0 : Int32))] [(.long ((1 : Int64) + (1 : Int64))), (.ref a)])
  rw [show ((1 : Int64) + (1 : Int64)) = (2 : Int64) from by decide]
  refine Go.putF X14 hx hZ hown (host := "") (Or.inl (wd 35 rfl)) Via.refl e14 F12 E10 (Or.inl (wd 36 rfl)) (wd 17 rfl) (ty := .long) (by decide) rfl rfl (hb hby d5_77) rfl ?_
  intro T15 h15 X15 e15 W15 F16
  have K17 := K7.wr W15 (Or.inl (List.mem_of_getElem? (i := 0) rfl))
  have O18 := O8.wr W15 ga
  have N19 := Fr.snoc X15 N9 ga
  have E20 := E10.wr W15
  have F21 := F11.other W15 (Or.inr (slot_ne (Or.inl (wd 26 rfl)) (Or.inl (wd 36 rfl)) (by decide) (t := (.array (.array .long))) (t' := .long) (by decide) (by decide)))
  have V22 := V13.other W15 (Ne.symm nab)
  have V23 := V6.other W15 (Ne.symm nag)
  exact Go.retV X15 hx hret hlk (hb hby d5_80) rfl (by rw [e15]; exact ⟨rfl, N19, K17, E20, F21, F16, V22, V23⟩) (Nat.le_of_ble_eq_true rfl) (Nat.le_of_ble_eq_true rfl)
set_option maxRecDepth 65536 in
set_option maxHeartbeats 40000000 in
theorem rm_startEdges_1 (l : Launch) (Z : State) (a0 : Array Value) (hw : ∀ d ∈ tables_1, d.before a0 Z = true) (a x b : Addr) (kb : ClassId) (g : Addr) (kp : ClassId) (v0 v1 v2 v3 v4 v5 : Int64) (y : Addr) (n : Int64) (h0 : Heap) (O0 : Old Z Z.heap.size h0) (Fx : Fld Z h0 a "com/example/diktyo/diktyo/analysis/ReachabilityGraph" "firstEdges" "Lcom/example/diktyo/diktyo/analysis/LongPages;" (.ref x)) (Ex : Exa Z h0 x "com/example/diktyo/diktyo/analysis/LongPages") (gx : Z.heap.size ≤ x) (nax : a ≠ x) (nab : a ≠ b) (nxb : x ≠ b) (Fp : Fld Z h0 x "com/example/diktyo/diktyo/analysis/LongPages" "pages" "[[J" (.ref b)) (Fs : Fld Z h0 x "com/example/diktyo/diktyo/analysis/LongPages" "size" "J" (.long (1 : Int64))) (gg : Z.heap.size ≤ g) (nag : a ≠ g) (nxg : x ≠ g) (nbg : b ≠ g) (Vb : Arv Z h0 b kb (.array .long) (1 : Int32) [(.ref g)] .null) (Vg : Arv Z h0 g kp .long (65536 : Int32) [(.long v0), (.long v1), (.long v2), (.long v3), (.long v4), (.long v5)] (.long (0 : Int64))) (Fy : Fld Z h0 a "com/example/diktyo/diktyo/analysis/ReachabilityGraph" "edges" "Lcom/example/diktyo/diktyo/analysis/LongPages;" (.ref y)) (Ey : Exa Z h0 y "com/example/diktyo/diktyo/analysis/LongPages") (Fn : Fld Z h0 y "com/example/diktyo/diktyo/analysis/LongPages" "size" "J" (.long n)) (nyx : y ≠ x) (nyb : y ≠ b) (nyg : y ≠ g) : Ctr l Z (⟨"com/example/diktyo/diktyo/analysis/ReachabilityGraph", "startEdges", "()V"⟩ : MethodName) prog_21_method_3_code 1 none ({ frames := 1, cells := 0, slots := 0, locals := 15 } : Room) #[(.ref a)] h0 (fun v' h L => v' = none ∧ Fr Z.heap.size L ∧ Keep h0 h [x, g] ∧ Exa Z h x "com/example/diktyo/diktyo/analysis/LongPages" ∧ Fld Z h x "com/example/diktyo/diktyo/analysis/LongPages" "pages" "[[J" (.ref b) ∧ Fld Z h x "com/example/diktyo/diktyo/analysis/LongPages" "size" "J" (.long (2 : Int64)) ∧ Arv Z h b kb (.array .long) (1 : Int32) [(.ref g)] .null ∧ Arv Z h g kp .long (65536 : Int32) [(.long v0), (.long n), (.long v2), (.long v3), (.long v4), (.long v5)] (.long (0 : Int64))) := by
  refine Ctr.of (plainFor_of_name pn_1) ?_
  have wd : ∀ {d : Jvm.Cond} (i : Nat), tables_1[i]? = some d → d.before a0 Z = true := fun i q => hw _ (List.mem_of_getElem? q)
  intro p e s m below meth c s₁ hx hby hml hown hnm hret hlk hZ X0 e0
  refine Go.cast (ef_6 m a) ?_
  show Go p e below _ s₁ (mkF m 0 #[.val (.ref a)] [])
  refine Go.aloadN X0 hx (hb hby d6_0) rfl rfl rfl ?_
  refine Go.getF X0 hx hZ hown (host := "") (Or.inl (wd 45 rfl)) Via.refl e0 Fx (hb hby d6_1) rfl ?_
  intro T1 X1 e1
  refine Go.aloadN X1 hx (hb hby d6_4) rfl rfl rfl ?_
  refine Go.getF X1 hx hZ hown (host := "") (Or.inl (wd 47 rfl)) Via.refl e1 Fy (hb hby d6_5) rfl ?_
  intro T2 X2 e2
  refine Go.pureV X2 hx hZ hown (wd 54 rfl) (wd 55 rfl) (notFace_of_selects (args := #[]) (mvT hZ (wd 57 rfl))) (wd 57 rfl) (wd 56 rfl) (wd 18 rfl) (wd 58 rfl) (by decide) [] [(.ref x)] Ey (lpN l Z a0 hw y n h0 Fn) e2 rfl (by rw [hml]; rfl) pd_2 rfl (hb hby d6_8) (Nat.le_of_ble_eq_true rfl) (Nat.le_of_ble_eq_true rfl) (Nat.le_of_ble_eq_true rfl) (Nat.le_of_ble_eq_true rfl) ?_
  intro T3 X3 e3
  refine Go.callV X3 hx hZ hown (wd 59 rfl) (wd 31 rfl) (notFace_of_selects (args := #[]) (mvT hZ (wd 33 rfl))) (wd 33 rfl) (wd 32 rfl) (wd 18 rfl) (wd 34 rfl) (by decide) [(.long n)] [] Ex (lpA1 l Z a0 hw x b g kb kp n v0 v1 v2 v3 v4 v5 h0 O0 Ex gx gg nxb nxg nbg Fp Fs Vb Vg) e3 rfl (by rw [hml]; rfl) pd_1 rfl (hb hby d6_11) (Nat.le_of_ble_eq_true rfl) (Nat.le_of_ble_eq_true rfl) (Nat.le_of_ble_eq_true rfl) (Nat.le_of_ble_eq_true rfl) ?_
  rintro vv4 T4 L4 X4 Q4
  obtain ⟨rfl, N4, K4, E4, Fp4, Fs4, Vb4, Vg4⟩ := Q4
  have M5 := Fr.app (Fr.nil _) N4
  have O6 := O0.keep K4 (allS gx (allS gg (all0)))
  have K7 := Keep.trans (Keep.refl h0 [x, g]) K4 (allS (Or.inl (List.mem_of_getElem? (i := 0) rfl)) (allS (Or.inl (List.mem_of_getElem? (i := 1) rfl)) (all0)))
  have F8 := Fx.keep K4 (ninS nax (ninS nag (nin0)))
  have E9 := Ex.keep K4
  have F10 := Fy.keep K4 (ninS nax (ninS nag (nin0)))
  have E11 := Ey.keep K4
  have F12 := Fn.keep K4 (ninS nyx (ninS nyg (nin0)))
  have V13 := Vb.keep K4 (ninS (Ne.symm nxb) (ninS nbg (nin0)))
  exact Go.retV X4 hx hret hlk (hb hby d6_14) rfl ⟨rfl, M5, K7, E4, Fp4, Fs4, V13, Vg4⟩ (Nat.le_of_ble_eq_true rfl) (Nat.le_of_ble_eq_true rfl)
set_option maxRecDepth 65536 in
set_option maxHeartbeats 40000000 in
theorem lpA2 (l : Launch) (Z : State) (a0 : Array Value) (hw : ∀ d ∈ tables_1, d.before a0 Z = true) (a b g : Addr) (kb kp : ClassId) (v v0 v1 v2 v3 v4 v5 : Int64) (h0 : Heap) (O0 : Old Z Z.heap.size h0) (Ea : Exa Z h0 a "com/example/diktyo/diktyo/analysis/LongPages") (ga : Z.heap.size ≤ a) (gg : Z.heap.size ≤ g) (nab : a ≠ b) (nag : a ≠ g) (nbg : b ≠ g) (Fp : Fld Z h0 a "com/example/diktyo/diktyo/analysis/LongPages" "pages" "[[J" (.ref b)) (Fs : Fld Z h0 a "com/example/diktyo/diktyo/analysis/LongPages" "size" "J" (.long (2 : Int64))) (Vb : Arv Z h0 b kb (.array .long) (1 : Int32) [(.ref g)] .null) (Vg : Arv Z h0 g kp .long (65536 : Int32) [(.long v0), (.long v1), (.long v2), (.long v3), (.long v4), (.long v5)] (.long (0 : Int64))) : Ctr l Z (⟨"com/example/diktyo/diktyo/analysis/LongPages", "add", "(J)V"⟩ : MethodName) prog_14_method_3_code 4 none ({ frames := 0, cells := 0, slots := 0, locals := 0 } : Room) #[(.ref a), (.long v)] h0 (fun v' h L => v' = none ∧ Fr Z.heap.size L ∧ Keep h0 h [a, g] ∧ Exa Z h a "com/example/diktyo/diktyo/analysis/LongPages" ∧ Fld Z h a "com/example/diktyo/diktyo/analysis/LongPages" "pages" "[[J" (.ref b) ∧ Fld Z h a "com/example/diktyo/diktyo/analysis/LongPages" "size" "J" (.long (3 : Int64)) ∧ Arv Z h b kb (.array .long) (1 : Int32) [(.ref g)] .null ∧ Arv Z h g kp .long (65536 : Int32) [(.long v0), (.long v1), (.long v), (.long v3), (.long v4), (.long v5)] (.long (0 : Int64))) := by
  refine Ctr.of (plainFor_of_name pn_4) ?_
  have wd : ∀ {d : Jvm.Cond} (i : Nat), tables_1[i]? = some d → d.before a0 Z = true := fun i q => hw _ (List.mem_of_getElem? q)
  intro p e s m below meth c s₁ hx hby hml hown hnm hret hlk hZ X0 e0
  refine Go.cast (ef_5 m a v) ?_
  show Go p e below _ s₁ (mkF m 0 #[.val (.ref a), .val (.long v), .second, .unset] [])
  refine Go.aloadN X0 hx (hb hby d5_0) rfl rfl rfl ?_
  refine Go.getF X0 hx hZ hown (host := "") (Or.inl (wd 35 rfl)) Via.refl e0 Fs (hb hby d5_1) rfl ?_
  intro T1 X1 e1
  refine Go.bipush X1 hx (hb hby d5_4) rfl (16 : Int32) rfl ?_
  refine Go.lushr X1 hx (hb hby d5_6) rfl ?_
  show Go p e below _ T1 (mkF m 7 #[.val (.ref a), .val (.long v), .second, .unset] [(.long ((((2 : Int64)).toUInt64 >>> ((16 : Int32) &&& 0x3f).toInt64.toUInt64).toInt64))])
  rw [show ((((2 : Int64)).toUInt64 >>> ((16 : Int32) &&& 0x3f).toInt64.toUInt64).toInt64) = (0 : Int64) from by decide]
  refine Go.l2i X1 hx (hb hby d5_7) rfl ?_
  show Go p e below _ T1 (mkF m 8 #[.val (.ref a), .val (.long v), .second, .unset] [(.int (((0 : Int64)).toInt32))])
  rw [show (((0 : Int64)).toInt32) = (0 : Int32) from by decide]
  refine Go.istoreN X1 hx (hb hby d5_8) rfl  #[.val (.ref a), .val (.long v), .second, .val (.int (0 : Int32))] rfl ?_
  refine Go.iloadN X1 hx (hb hby d5_9) rfl rfl  ?_
  refine Go.aloadN X1 hx (hb hby d5_10) rfl rfl rfl ?_
  refine Go.getF X1 hx hZ hown (host := "") (Or.inl (wd 25 rfl)) Via.refl e1 Fp (hb hby d5_11) rfl ?_
  intro T2 X2 e2
  refine Go.alen X2 hx hZ Vb e2 (hb hby d5_14) rfl ?_
  refine Go.icmpYes X2 hx (hb hby d5_15) rfl 35 (feq (by decide : ¬ ((0 : Int32) = (1 : Int32)))).2 (by decide) (by decide) ?_
  refine Go.aloadN X2 hx (hb hby d5_35) rfl rfl rfl ?_
  refine Go.getF X2 hx hZ hown (host := "") (Or.inl (wd 25 rfl)) Via.refl e2 Fp (hb hby d5_36) rfl ?_
  intro T3 X3 e3
  refine Go.iloadN X3 hx (hb hby d5_39) rfl rfl  ?_
  refine Go.aaload X3 hx hZ (.ref g) Vb e3 rfl ⟨by decide, by decide⟩ rfl (hb hby d5_40) rfl ?_
  refine Go.ifnonnullYes X3 hx (hb hby d5_41) rfl 54 (by decide) (by decide) ?_
  refine Go.aloadN X3 hx (hb hby d5_54) rfl rfl rfl ?_
  refine Go.getF X3 hx hZ hown (host := "") (Or.inl (wd 25 rfl)) Via.refl e3 Fp (hb hby d5_55) rfl ?_
  intro T4 X4 e4
  refine Go.iloadN X4 hx (hb hby d5_58) rfl rfl  ?_
  refine Go.aaload X4 hx hZ (.ref g) Vb e4 rfl ⟨by decide, by decide⟩ rfl (hb hby d5_59) rfl ?_
  refine Go.aloadN X4 hx (hb hby d5_60) rfl rfl rfl ?_
  refine Go.getF X4 hx hZ hown (host := "") (Or.inl (wd 35 rfl)) Via.refl e4 Fs (hb hby d5_61) rfl ?_
  intro T5 X5 e5
  refine Go.l2i X5 hx (hb hby d5_64) rfl ?_
  show Go p e below _ T5 (mkF m 65 #[.val (.ref a), .val (.long v), .second, .val (.int (0 : Int32))] [(.int (((2 : Int64)).toInt32)), (.ref g)])
  rw [show (((2 : Int64)).toInt32) = (2 : Int32) from by decide]
  refine Go.ldc X5 hx hZ hown (wd 40 rfl) (hb hby d5_65) rfl ?_
  refine Go.iand X5 hx (hb hby d5_67) rfl ?_
  show Go p e below _ T5 (mkF m 68 #[.val (.ref a), .val (.long v), .second, .val (.int (0 : Int32))] [(.int ((2 : Int32) &&& (65535 : Int32))), (.ref g)])
  rw [show ((2 : Int32) &&& (65535 : Int32)) = (2 : Int32) from by decide]
  refine Go.lloadN X5 hx (hb hby d5_68) rfl rfl  ?_
  refine Go.lastore X5 hx hZ Vg e5 ⟨by decide, by decide⟩ 2 (by decide) (Nat.le_of_ble_eq_true rfl)  (hb hby d5_69) rfl ?_
  intro T6 h6 X6 e6 W6 V6'
  have V6 : Arv Z h6 g kp .long (65536 : Int32) [(.long v0), (.long v1), (.long v), (.long v3), (.long v4), (.long v5)] (.long (0 : Int64)) := V6'
  have K7 := (Keep.refl h0 [a, g]).wr W6 (Or.inl (List.mem_of_getElem? (i := 1) rfl))
  have O8 := O0.wr W6 gg
  have N9 := Fr.snoc X6 (Fr.nil _) gg
  have E10 := Ea.wr W6
  have F11 := Fp.other W6 (Or.inl nag)
  have F12 := Fs.other W6 (Or.inl nag)
  have V13 := Vb.other W6 nbg
  refine Go.aloadN X6 hx (hb hby d5_70) rfl rfl rfl ?_
  refine Go.dup X6 hx (hb hby d5_71) rfl rfl ?_
  refine Go.getF X6 hx hZ hown (host := "") (Or.inl (wd 35 rfl)) Via.refl e6 F12 (hb hby d5_72) rfl ?_
  intro T14 X14 e14
  refine Go.lconst X14 hx (hb hby d5_75) rfl (1 : Int64) rfl ?_
  refine Go.ladd X14 hx (hb hby d5_76) rfl ?_
  show Go p e below _ T14 (mkF m 77 #[.val (.ref a), .val (.long v), .second, .val (.int (0 : Int32))] [(.long ((2 : Int64) + (1 : Int64))), (.ref a)])
  rw [show ((2 : Int64) + (1 : Int64)) = (3 : Int64) from by decide]
  refine Go.putF X14 hx hZ hown (host := "") (Or.inl (wd 35 rfl)) Via.refl e14 F12 E10 (Or.inl (wd 36 rfl)) (wd 17 rfl) (ty := .long) (by decide) rfl rfl (hb hby d5_77) rfl ?_
  intro T15 h15 X15 e15 W15 F16
  have K17 := K7.wr W15 (Or.inl (List.mem_of_getElem? (i := 0) rfl))
  have O18 := O8.wr W15 ga
  have N19 := Fr.snoc X15 N9 ga
  have E20 := E10.wr W15
  have F21 := F11.other W15 (Or.inr (slot_ne (Or.inl (wd 26 rfl)) (Or.inl (wd 36 rfl)) (by decide) (t := (.array (.array .long))) (t' := .long) (by decide) (by decide)))
  have V22 := V13.other W15 (Ne.symm nab)
  have V23 := V6.other W15 (Ne.symm nag)
  exact Go.retV X15 hx hret hlk (hb hby d5_80) rfl (by rw [e15]; exact ⟨rfl, N19, K17, E20, F21, F16, V22, V23⟩) (Nat.le_of_ble_eq_true rfl) (Nat.le_of_ble_eq_true rfl)
set_option maxRecDepth 65536 in
set_option maxHeartbeats 40000000 in
theorem rm_startEdges_2 (l : Launch) (Z : State) (a0 : Array Value) (hw : ∀ d ∈ tables_1, d.before a0 Z = true) (a x b : Addr) (kb : ClassId) (g : Addr) (kp : ClassId) (v0 v1 v2 v3 v4 v5 : Int64) (y : Addr) (n : Int64) (h0 : Heap) (O0 : Old Z Z.heap.size h0) (Fx : Fld Z h0 a "com/example/diktyo/diktyo/analysis/ReachabilityGraph" "firstEdges" "Lcom/example/diktyo/diktyo/analysis/LongPages;" (.ref x)) (Ex : Exa Z h0 x "com/example/diktyo/diktyo/analysis/LongPages") (gx : Z.heap.size ≤ x) (nax : a ≠ x) (nab : a ≠ b) (nxb : x ≠ b) (Fp : Fld Z h0 x "com/example/diktyo/diktyo/analysis/LongPages" "pages" "[[J" (.ref b)) (Fs : Fld Z h0 x "com/example/diktyo/diktyo/analysis/LongPages" "size" "J" (.long (2 : Int64))) (gg : Z.heap.size ≤ g) (nag : a ≠ g) (nxg : x ≠ g) (nbg : b ≠ g) (Vb : Arv Z h0 b kb (.array .long) (1 : Int32) [(.ref g)] .null) (Vg : Arv Z h0 g kp .long (65536 : Int32) [(.long v0), (.long v1), (.long v2), (.long v3), (.long v4), (.long v5)] (.long (0 : Int64))) (Fy : Fld Z h0 a "com/example/diktyo/diktyo/analysis/ReachabilityGraph" "edges" "Lcom/example/diktyo/diktyo/analysis/LongPages;" (.ref y)) (Ey : Exa Z h0 y "com/example/diktyo/diktyo/analysis/LongPages") (Fn : Fld Z h0 y "com/example/diktyo/diktyo/analysis/LongPages" "size" "J" (.long n)) (nyx : y ≠ x) (nyb : y ≠ b) (nyg : y ≠ g) : Ctr l Z (⟨"com/example/diktyo/diktyo/analysis/ReachabilityGraph", "startEdges", "()V"⟩ : MethodName) prog_21_method_3_code 1 none ({ frames := 1, cells := 0, slots := 0, locals := 15 } : Room) #[(.ref a)] h0 (fun v' h L => v' = none ∧ Fr Z.heap.size L ∧ Keep h0 h [x, g] ∧ Exa Z h x "com/example/diktyo/diktyo/analysis/LongPages" ∧ Fld Z h x "com/example/diktyo/diktyo/analysis/LongPages" "pages" "[[J" (.ref b) ∧ Fld Z h x "com/example/diktyo/diktyo/analysis/LongPages" "size" "J" (.long (3 : Int64)) ∧ Arv Z h b kb (.array .long) (1 : Int32) [(.ref g)] .null ∧ Arv Z h g kp .long (65536 : Int32) [(.long v0), (.long v1), (.long n), (.long v3), (.long v4), (.long v5)] (.long (0 : Int64))) := by
  refine Ctr.of (plainFor_of_name pn_1) ?_
  have wd : ∀ {d : Jvm.Cond} (i : Nat), tables_1[i]? = some d → d.before a0 Z = true := fun i q => hw _ (List.mem_of_getElem? q)
  intro p e s m below meth c s₁ hx hby hml hown hnm hret hlk hZ X0 e0
  refine Go.cast (ef_6 m a) ?_
  show Go p e below _ s₁ (mkF m 0 #[.val (.ref a)] [])
  refine Go.aloadN X0 hx (hb hby d6_0) rfl rfl rfl ?_
  refine Go.getF X0 hx hZ hown (host := "") (Or.inl (wd 45 rfl)) Via.refl e0 Fx (hb hby d6_1) rfl ?_
  intro T1 X1 e1
  refine Go.aloadN X1 hx (hb hby d6_4) rfl rfl rfl ?_
  refine Go.getF X1 hx hZ hown (host := "") (Or.inl (wd 47 rfl)) Via.refl e1 Fy (hb hby d6_5) rfl ?_
  intro T2 X2 e2
  refine Go.pureV X2 hx hZ hown (wd 54 rfl) (wd 55 rfl) (notFace_of_selects (args := #[]) (mvT hZ (wd 57 rfl))) (wd 57 rfl) (wd 56 rfl) (wd 18 rfl) (wd 58 rfl) (by decide) [] [(.ref x)] Ey (lpN l Z a0 hw y n h0 Fn) e2 rfl (by rw [hml]; rfl) pd_2 rfl (hb hby d6_8) (Nat.le_of_ble_eq_true rfl) (Nat.le_of_ble_eq_true rfl) (Nat.le_of_ble_eq_true rfl) (Nat.le_of_ble_eq_true rfl) ?_
  intro T3 X3 e3
  refine Go.callV X3 hx hZ hown (wd 59 rfl) (wd 31 rfl) (notFace_of_selects (args := #[]) (mvT hZ (wd 33 rfl))) (wd 33 rfl) (wd 32 rfl) (wd 18 rfl) (wd 34 rfl) (by decide) [(.long n)] [] Ex (lpA2 l Z a0 hw x b g kb kp n v0 v1 v2 v3 v4 v5 h0 O0 Ex gx gg nxb nxg nbg Fp Fs Vb Vg) e3 rfl (by rw [hml]; rfl) pd_1 rfl (hb hby d6_11) (Nat.le_of_ble_eq_true rfl) (Nat.le_of_ble_eq_true rfl) (Nat.le_of_ble_eq_true rfl) (Nat.le_of_ble_eq_true rfl) ?_
  rintro vv4 T4 L4 X4 Q4
  obtain ⟨rfl, N4, K4, E4, Fp4, Fs4, Vb4, Vg4⟩ := Q4
  have M5 := Fr.app (Fr.nil _) N4
  have O6 := O0.keep K4 (allS gx (allS gg (all0)))
  have K7 := Keep.trans (Keep.refl h0 [x, g]) K4 (allS (Or.inl (List.mem_of_getElem? (i := 0) rfl)) (allS (Or.inl (List.mem_of_getElem? (i := 1) rfl)) (all0)))
  have F8 := Fx.keep K4 (ninS nax (ninS nag (nin0)))
  have E9 := Ex.keep K4
  have F10 := Fy.keep K4 (ninS nax (ninS nag (nin0)))
  have E11 := Ey.keep K4
  have F12 := Fn.keep K4 (ninS nyx (ninS nyg (nin0)))
  have V13 := Vb.keep K4 (ninS (Ne.symm nxb) (ninS nbg (nin0)))
  exact Go.retV X4 hx hret hlk (hb hby d6_14) rfl ⟨rfl, M5, K7, E4, Fp4, Fs4, V13, Vg4⟩ (Nat.le_of_ble_eq_true rfl) (Nat.le_of_ble_eq_true rfl)
theorem d8_0 : decode prog_21_method_5_code 0 = .ok (.aload_n 0, 1) := by decide +kernel
theorem d8_1 : decode prog_21_method_5_code 1 = .ok (.getfield 19, 3) := by decide +kernel
theorem d8_4 : decode prog_21_method_5_code 4 = .ok (.aload_n 0, 1) := by decide +kernel
theorem d8_5 : decode prog_21_method_5_code 5 = .ok (.getfield 23, 3) := by decide +kernel
theorem d8_8 : decode prog_21_method_5_code 8 = .ok (.invokevirtual 26, 3) := by decide +kernel
theorem d8_11 : decode prog_21_method_5_code 11 = .ok (.invokevirtual 30, 3) := by decide +kernel
theorem d8_14 : decode prog_21_method_5_code 14 = .ok (.return_, 1) := by decide +kernel
theorem ef_8 (m : MethodId) (x0 : Addr) : entryFrame m #[(.ref x0)] 1 = mkF m 0 #[.val (.ref x0)] [] := by first | (simp [entryFrame, mkF, argsToLocals, Value.category]; done) | rfl
set_option maxRecDepth 65536 in
set_option maxHeartbeats 40000000 in
theorem lpA3 (l : Launch) (Z : State) (a0 : Array Value) (hw : ∀ d ∈ tables_1, d.before a0 Z = true) (a b g : Addr) (kb kp : ClassId) (v v0 v1 v2 v3 v4 v5 : Int64) (h0 : Heap) (O0 : Old Z Z.heap.size h0) (Ea : Exa Z h0 a "com/example/diktyo/diktyo/analysis/LongPages") (ga : Z.heap.size ≤ a) (gg : Z.heap.size ≤ g) (nab : a ≠ b) (nag : a ≠ g) (nbg : b ≠ g) (Fp : Fld Z h0 a "com/example/diktyo/diktyo/analysis/LongPages" "pages" "[[J" (.ref b)) (Fs : Fld Z h0 a "com/example/diktyo/diktyo/analysis/LongPages" "size" "J" (.long (3 : Int64))) (Vb : Arv Z h0 b kb (.array .long) (1 : Int32) [(.ref g)] .null) (Vg : Arv Z h0 g kp .long (65536 : Int32) [(.long v0), (.long v1), (.long v2), (.long v3), (.long v4), (.long v5)] (.long (0 : Int64))) : Ctr l Z (⟨"com/example/diktyo/diktyo/analysis/LongPages", "add", "(J)V"⟩ : MethodName) prog_14_method_3_code 4 none ({ frames := 0, cells := 0, slots := 0, locals := 0 } : Room) #[(.ref a), (.long v)] h0 (fun v' h L => v' = none ∧ Fr Z.heap.size L ∧ Keep h0 h [a, g] ∧ Exa Z h a "com/example/diktyo/diktyo/analysis/LongPages" ∧ Fld Z h a "com/example/diktyo/diktyo/analysis/LongPages" "pages" "[[J" (.ref b) ∧ Fld Z h a "com/example/diktyo/diktyo/analysis/LongPages" "size" "J" (.long (4 : Int64)) ∧ Arv Z h b kb (.array .long) (1 : Int32) [(.ref g)] .null ∧ Arv Z h g kp .long (65536 : Int32) [(.long v0), (.long v1), (.long v2), (.long v), (.long v4), (.long v5)] (.long (0 : Int64))) := by
  refine Ctr.of (plainFor_of_name pn_4) ?_
  have wd : ∀ {d : Jvm.Cond} (i : Nat), tables_1[i]? = some d → d.before a0 Z = true := fun i q => hw _ (List.mem_of_getElem? q)
  intro p e s m below meth c s₁ hx hby hml hown hnm hret hlk hZ X0 e0
  refine Go.cast (ef_5 m a v) ?_
  show Go p e below _ s₁ (mkF m 0 #[.val (.ref a), .val (.long v), .second, .unset] [])
  refine Go.aloadN X0 hx (hb hby d5_0) rfl rfl rfl ?_
  refine Go.getF X0 hx hZ hown (host := "") (Or.inl (wd 35 rfl)) Via.refl e0 Fs (hb hby d5_1) rfl ?_
  intro T1 X1 e1
  refine Go.bipush X1 hx (hb hby d5_4) rfl (16 : Int32) rfl ?_
  refine Go.lushr X1 hx (hb hby d5_6) rfl ?_
  show Go p e below _ T1 (mkF m 7 #[.val (.ref a), .val (.long v), .second, .unset] [(.long ((((3 : Int64)).toUInt64 >>> ((16 : Int32) &&& 0x3f).toInt64.toUInt64).toInt64))])
  rw [show ((((3 : Int64)).toUInt64 >>> ((16 : Int32) &&& 0x3f).toInt64.toUInt64).toInt64) = (0 : Int64) from by decide]
  refine Go.l2i X1 hx (hb hby d5_7) rfl ?_
  show Go p e below _ T1 (mkF m 8 #[.val (.ref a), .val (.long v), .second, .unset] [(.int (((0 : Int64)).toInt32))])
  rw [show (((0 : Int64)).toInt32) = (0 : Int32) from by decide]
  refine Go.istoreN X1 hx (hb hby d5_8) rfl  #[.val (.ref a), .val (.long v), .second, .val (.int (0 : Int32))] rfl ?_
  refine Go.iloadN X1 hx (hb hby d5_9) rfl rfl  ?_
  refine Go.aloadN X1 hx (hb hby d5_10) rfl rfl rfl ?_
  refine Go.getF X1 hx hZ hown (host := "") (Or.inl (wd 25 rfl)) Via.refl e1 Fp (hb hby d5_11) rfl ?_
  intro T2 X2 e2
  refine Go.alen X2 hx hZ Vb e2 (hb hby d5_14) rfl ?_
  refine Go.icmpYes X2 hx (hb hby d5_15) rfl 35 (feq (by decide : ¬ ((0 : Int32) = (1 : Int32)))).2 (by decide) (by decide) ?_
  refine Go.aloadN X2 hx (hb hby d5_35) rfl rfl rfl ?_
  refine Go.getF X2 hx hZ hown (host := "") (Or.inl (wd 25 rfl)) Via.refl e2 Fp (hb hby d5_36) rfl ?_
  intro T3 X3 e3
  refine Go.iloadN X3 hx (hb hby d5_39) rfl rfl  ?_
  refine Go.aaload X3 hx hZ (.ref g) Vb e3 rfl ⟨by decide, by decide⟩ rfl (hb hby d5_40) rfl ?_
  refine Go.ifnonnullYes X3 hx (hb hby d5_41) rfl 54 (by decide) (by decide) ?_
  refine Go.aloadN X3 hx (hb hby d5_54) rfl rfl rfl ?_
  refine Go.getF X3 hx hZ hown (host := "") (Or.inl (wd 25 rfl)) Via.refl e3 Fp (hb hby d5_55) rfl ?_
  intro T4 X4 e4
  refine Go.iloadN X4 hx (hb hby d5_58) rfl rfl  ?_
  refine Go.aaload X4 hx hZ (.ref g) Vb e4 rfl ⟨by decide, by decide⟩ rfl (hb hby d5_59) rfl ?_
  refine Go.aloadN X4 hx (hb hby d5_60) rfl rfl rfl ?_
  refine Go.getF X4 hx hZ hown (host := "") (Or.inl (wd 35 rfl)) Via.refl e4 Fs (hb hby d5_61) rfl ?_
  intro T5 X5 e5
  refine Go.l2i X5 hx (hb hby d5_64) rfl ?_
  show Go p e below _ T5 (mkF m 65 #[.val (.ref a), .val (.long v), .second, .val (.int (0 : Int32))] [(.int (((3 : Int64)).toInt32)), (.ref g)])
  rw [show (((3 : Int64)).toInt32) = (3 : Int32) from by decide]
  refine Go.ldc X5 hx hZ hown (wd 40 rfl) (hb hby d5_65) rfl ?_
  refine Go.iand X5 hx (hb hby d5_67) rfl ?_
  show Go p e below _ T5 (mkF m 68 #[.val (.ref a), .val (.long v), .second, .val (.int (0 : Int32))] [(.int ((3 : Int32) &&& (65535 : Int32))), (.ref g)])
  rw [show ((3 : Int32) &&& (65535 : Int32)) = (3 : Int32) from by decide]
  refine Go.lloadN X5 hx (hb hby d5_68) rfl rfl  ?_
  refine Go.lastore X5 hx hZ Vg e5 ⟨by decide, by decide⟩ 3 (by decide) (Nat.le_of_ble_eq_true rfl)  (hb hby d5_69) rfl ?_
  intro T6 h6 X6 e6 W6 V6'
  have V6 : Arv Z h6 g kp .long (65536 : Int32) [(.long v0), (.long v1), (.long v2), (.long v), (.long v4), (.long v5)] (.long (0 : Int64)) := V6'
  have K7 := (Keep.refl h0 [a, g]).wr W6 (Or.inl (List.mem_of_getElem? (i := 1) rfl))
  have O8 := O0.wr W6 gg
  have N9 := Fr.snoc X6 (Fr.nil _) gg
  have E10 := Ea.wr W6
  have F11 := Fp.other W6 (Or.inl nag)
  have F12 := Fs.other W6 (Or.inl nag)
  have V13 := Vb.other W6 nbg
  refine Go.aloadN X6 hx (hb hby d5_70) rfl rfl rfl ?_
  refine Go.dup X6 hx (hb hby d5_71) rfl rfl ?_
  refine Go.getF X6 hx hZ hown (host := "") (Or.inl (wd 35 rfl)) Via.refl e6 F12 (hb hby d5_72) rfl ?_
  intro T14 X14 e14
  refine Go.lconst X14 hx (hb hby d5_75) rfl (1 : Int64) rfl ?_
  refine Go.ladd X14 hx (hb hby d5_76) rfl ?_
  show Go p e below _ T14 (mkF m 77 #[.val (.ref a), .val (.long v), .second, .val (.int (0 : Int32))] [(.long ((3 : Int64) + (1 : Int64))), (.ref a)])
  rw [show ((3 : Int64) + (1 : Int64)) = (4 : Int64) from by decide]
  refine Go.putF X14 hx hZ hown (host := "") (Or.inl (wd 35 rfl)) Via.refl e14 F12 E10 (Or.inl (wd 36 rfl)) (wd 17 rfl) (ty := .long) (by decide) rfl rfl (hb hby d5_77) rfl ?_
  intro T15 h15 X15 e15 W15 F16
  have K17 := K7.wr W15 (Or.inl (List.mem_of_getElem? (i := 0) rfl))
  have O18 := O8.wr W15 ga
  have N19 := Fr.snoc X15 N9 ga
  have E20 := E10.wr W15
  have F21 := F11.other W15 (Or.inr (slot_ne (Or.inl (wd 26 rfl)) (Or.inl (wd 36 rfl)) (by decide) (t := (.array (.array .long))) (t' := .long) (by decide) (by decide)))
  have V22 := V13.other W15 (Ne.symm nab)
  have V23 := V6.other W15 (Ne.symm nag)
  exact Go.retV X15 hx hret hlk (hb hby d5_80) rfl (by rw [e15]; exact ⟨rfl, N19, K17, E20, F21, F16, V22, V23⟩) (Nat.le_of_ble_eq_true rfl) (Nat.le_of_ble_eq_true rfl)
set_option maxRecDepth 65536 in
set_option maxHeartbeats 40000000 in
theorem rm_endEdges_3 (l : Launch) (Z : State) (a0 : Array Value) (hw : ∀ d ∈ tables_1, d.before a0 Z = true) (a x b : Addr) (kb : ClassId) (g : Addr) (kp : ClassId) (v0 v1 v2 v3 v4 v5 : Int64) (y : Addr) (n : Int64) (h0 : Heap) (O0 : Old Z Z.heap.size h0) (Fx : Fld Z h0 a "com/example/diktyo/diktyo/analysis/ReachabilityGraph" "firstEdges" "Lcom/example/diktyo/diktyo/analysis/LongPages;" (.ref x)) (Ex : Exa Z h0 x "com/example/diktyo/diktyo/analysis/LongPages") (gx : Z.heap.size ≤ x) (nax : a ≠ x) (nab : a ≠ b) (nxb : x ≠ b) (Fp : Fld Z h0 x "com/example/diktyo/diktyo/analysis/LongPages" "pages" "[[J" (.ref b)) (Fs : Fld Z h0 x "com/example/diktyo/diktyo/analysis/LongPages" "size" "J" (.long (3 : Int64))) (gg : Z.heap.size ≤ g) (nag : a ≠ g) (nxg : x ≠ g) (nbg : b ≠ g) (Vb : Arv Z h0 b kb (.array .long) (1 : Int32) [(.ref g)] .null) (Vg : Arv Z h0 g kp .long (65536 : Int32) [(.long v0), (.long v1), (.long v2), (.long v3), (.long v4), (.long v5)] (.long (0 : Int64))) (Fy : Fld Z h0 a "com/example/diktyo/diktyo/analysis/ReachabilityGraph" "edges" "Lcom/example/diktyo/diktyo/analysis/LongPages;" (.ref y)) (Ey : Exa Z h0 y "com/example/diktyo/diktyo/analysis/LongPages") (Fn : Fld Z h0 y "com/example/diktyo/diktyo/analysis/LongPages" "size" "J" (.long n)) (nyx : y ≠ x) (nyb : y ≠ b) (nyg : y ≠ g) : Ctr l Z (⟨"com/example/diktyo/diktyo/analysis/ReachabilityGraph", "endEdges", "()V"⟩ : MethodName) prog_21_method_5_code 1 none ({ frames := 1, cells := 0, slots := 0, locals := 15 } : Room) #[(.ref a)] h0 (fun v' h L => v' = none ∧ Fr Z.heap.size L ∧ Keep h0 h [x, g] ∧ Exa Z h x "com/example/diktyo/diktyo/analysis/LongPages" ∧ Fld Z h x "com/example/diktyo/diktyo/analysis/LongPages" "pages" "[[J" (.ref b) ∧ Fld Z h x "com/example/diktyo/diktyo/analysis/LongPages" "size" "J" (.long (4 : Int64)) ∧ Arv Z h b kb (.array .long) (1 : Int32) [(.ref g)] .null ∧ Arv Z h g kp .long (65536 : Int32) [(.long v0), (.long v1), (.long v2), (.long n), (.long v4), (.long v5)] (.long (0 : Int64))) := by
  refine Ctr.of (plainFor_of_name pn_1) ?_
  have wd : ∀ {d : Jvm.Cond} (i : Nat), tables_1[i]? = some d → d.before a0 Z = true := fun i q => hw _ (List.mem_of_getElem? q)
  intro p e s m below meth c s₁ hx hby hml hown hnm hret hlk hZ X0 e0
  refine Go.cast (ef_8 m a) ?_
  show Go p e below _ s₁ (mkF m 0 #[.val (.ref a)] [])
  refine Go.aloadN X0 hx (hb hby d8_0) rfl rfl rfl ?_
  refine Go.getF X0 hx hZ hown (host := "") (Or.inl (wd 45 rfl)) Via.refl e0 Fx (hb hby d8_1) rfl ?_
  intro T1 X1 e1
  refine Go.aloadN X1 hx (hb hby d8_4) rfl rfl rfl ?_
  refine Go.getF X1 hx hZ hown (host := "") (Or.inl (wd 47 rfl)) Via.refl e1 Fy (hb hby d8_5) rfl ?_
  intro T2 X2 e2
  refine Go.pureV X2 hx hZ hown (wd 54 rfl) (wd 55 rfl) (notFace_of_selects (args := #[]) (mvT hZ (wd 57 rfl))) (wd 57 rfl) (wd 56 rfl) (wd 18 rfl) (wd 58 rfl) (by decide) [] [(.ref x)] Ey (lpN l Z a0 hw y n h0 Fn) e2 rfl (by rw [hml]; rfl) pd_2 rfl (hb hby d8_8) (Nat.le_of_ble_eq_true rfl) (Nat.le_of_ble_eq_true rfl) (Nat.le_of_ble_eq_true rfl) (Nat.le_of_ble_eq_true rfl) ?_
  intro T3 X3 e3
  refine Go.callV X3 hx hZ hown (wd 59 rfl) (wd 31 rfl) (notFace_of_selects (args := #[]) (mvT hZ (wd 33 rfl))) (wd 33 rfl) (wd 32 rfl) (wd 18 rfl) (wd 34 rfl) (by decide) [(.long n)] [] Ex (lpA3 l Z a0 hw x b g kb kp n v0 v1 v2 v3 v4 v5 h0 O0 Ex gx gg nxb nxg nbg Fp Fs Vb Vg) e3 rfl (by rw [hml]; rfl) pd_1 rfl (hb hby d8_11) (Nat.le_of_ble_eq_true rfl) (Nat.le_of_ble_eq_true rfl) (Nat.le_of_ble_eq_true rfl) (Nat.le_of_ble_eq_true rfl) ?_
  rintro vv4 T4 L4 X4 Q4
  obtain ⟨rfl, N4, K4, E4, Fp4, Fs4, Vb4, Vg4⟩ := Q4
  have M5 := Fr.app (Fr.nil _) N4
  have O6 := O0.keep K4 (allS gx (allS gg (all0)))
  have K7 := Keep.trans (Keep.refl h0 [x, g]) K4 (allS (Or.inl (List.mem_of_getElem? (i := 0) rfl)) (allS (Or.inl (List.mem_of_getElem? (i := 1) rfl)) (all0)))
  have F8 := Fx.keep K4 (ninS nax (ninS nag (nin0)))
  have E9 := Ex.keep K4
  have F10 := Fy.keep K4 (ninS nax (ninS nag (nin0)))
  have E11 := Ey.keep K4
  have F12 := Fn.keep K4 (ninS nyx (ninS nyg (nin0)))
  have V13 := Vb.keep K4 (ninS (Ne.symm nxb) (ninS nbg (nin0)))
  exact Go.retV X4 hx hret hlk (hb hby d8_14) rfl ⟨rfl, M5, K7, E4, Fp4, Fs4, V13, Vg4⟩ (Nat.le_of_ble_eq_true rfl) (Nat.le_of_ble_eq_true rfl)
theorem d9_0 : decode prog_21_method_8_code 0 = .ok (.aload_n 0, 1) := by decide +kernel
theorem d9_1 : decode prog_21_method_8_code 1 = .ok (.getfield 19, 3) := by decide +kernel
theorem d9_4 : decode prog_21_method_8_code 4 = .ok (.iload_n 1, 1) := by decide +kernel
theorem d9_5 : decode prog_21_method_8_code 5 = .ok (.i2l, 1) := by decide +kernel
theorem d9_6 : decode prog_21_method_8_code 6 = .ok (.invokevirtual 42, 3) := by decide +kernel
theorem d9_9 : decode prog_21_method_8_code 9 = .ok (.aload_n 0, 1) := by decide +kernel
theorem d9_10 : decode prog_21_method_8_code 10 = .ok (.getfield 19, 3) := by decide +kernel
theorem d9_13 : decode prog_21_method_8_code 13 = .ok (.iload_n 1, 1) := by decide +kernel
theorem d9_14 : decode prog_21_method_8_code 14 = .ok (.iconst 1, 1) := by decide +kernel
theorem d9_15 : decode prog_21_method_8_code 15 = .ok (.iadd, 1) := by decide +kernel
theorem d9_16 : decode prog_21_method_8_code 16 = .ok (.i2l, 1) := by decide +kernel
theorem d9_17 : decode prog_21_method_8_code 17 = .ok (.invokevirtual 42, 3) := by decide +kernel
theorem d9_20 : decode prog_21_method_8_code 20 = .ok (.lcmp, 1) := by decide +kernel
theorem d9_21 : decode prog_21_method_8_code 21 = .ok (.ifCond .ne 7, 3) := by decide +kernel
theorem d9_24 : decode prog_21_method_8_code 24 = .ok (.iconst 1, 1) := by decide +kernel
theorem d9_25 : decode prog_21_method_8_code 25 = .ok (.goto 4, 3) := by decide +kernel
theorem d9_28 : decode prog_21_method_8_code 28 = .ok (.iconst 0, 1) := by decide +kernel
theorem d9_29 : decode prog_21_method_8_code 29 = .ok (.ireturn, 1) := by decide +kernel
theorem ef_9 (m : MethodId) (x0 : Addr) (x1 : Int32) : entryFrame m #[(.ref x0), (.int x1)] 2 = mkF m 0 #[.val (.ref x0), .val (.int x1)] [] := by first | (simp [entryFrame, mkF, argsToLocals, Value.category]; done) | rfl
theorem d10_0 : decode prog_14_method_4_code 0 = .ok (.aload_n 0, 1) := by decide +kernel
theorem d10_1 : decode prog_14_method_4_code 1 = .ok (.getfield 11, 3) := by decide +kernel
theorem d10_4 : decode prog_14_method_4_code 4 = .ok (.lload_n 1, 1) := by decide +kernel
theorem d10_5 : decode prog_14_method_4_code 5 = .ok (.bipush 16, 2) := by decide +kernel
theorem d10_7 : decode prog_14_method_4_code 7 = .ok (.lushr, 1) := by decide +kernel
theorem d10_8 : decode prog_14_method_4_code 8 = .ok (.l2i, 1) := by decide +kernel
theorem d10_9 : decode prog_14_method_4_code 9 = .ok (.aaload, 1) := by decide +kernel
theorem d10_10 : decode prog_14_method_4_code 10 = .ok (.lload_n 1, 1) := by decide +kernel
theorem d10_11 : decode prog_14_method_4_code 11 = .ok (.l2i, 1) := by decide +kernel
theorem d10_12 : decode prog_14_method_4_code 12 = .ok (.ldc 27, 2) := by decide +kernel
theorem d10_14 : decode prog_14_method_4_code 14 = .ok (.iand, 1) := by decide +kernel
theorem d10_15 : decode prog_14_method_4_code 15 = .ok (.laload, 1) := by decide +kernel
theorem d10_16 : decode prog_14_method_4_code 16 = .ok (.lreturn, 1) := by decide +kernel
theorem ef_10 (m : MethodId) (x0 : Addr) (x1 : Int64) : entryFrame m #[(.ref x0), (.long x1)] 3 = mkF m 0 #[.val (.ref x0), .val (.long x1), .second] [] := by first | (simp [entryFrame, mkF, argsToLocals, Value.category]; done) | rfl
set_option maxRecDepth 65536 in
set_option maxHeartbeats 40000000 in
theorem lpG0 (l : Launch) (Z : State) (a0 : Array Value) (hw : ∀ d ∈ tables_1, d.before a0 Z = true) (a b g : Addr) (kb kp : ClassId) (v0 v1 v2 v3 v4 v5 : Int64) (h0 : Heap) (Fp : Fld Z h0 a "com/example/diktyo/diktyo/analysis/LongPages" "pages" "[[J" (.ref b)) (Vb : Arv Z h0 b kb (.array .long) (1 : Int32) [(.ref g)] .null) (Vg : Arv Z h0 g kp .long (65536 : Int32) [(.long v0), (.long v1), (.long v2), (.long v3), (.long v4), (.long v5)] (.long (0 : Int64))) : Pur l Z (⟨"com/example/diktyo/diktyo/analysis/LongPages", "get", "(J)J"⟩ : MethodName) prog_14_method_4_code 3 (some .long) 0 0 #[(.ref a), (.long (0 : Int64))] h0 (some (.long v0)) := by
  refine Ctr.of (plainFor_of_name pn_4) ?_
  have wd : ∀ {d : Jvm.Cond} (i : Nat), tables_1[i]? = some d → d.before a0 Z = true := fun i q => hw _ (List.mem_of_getElem? q)
  intro p e s m below meth c s₁ hx hby hml hown hnm hret hlk hZ X0 e0
  refine Go.cast (ef_10 m a (0 : Int64)) ?_
  show Go p e below _ s₁ (mkF m 0 #[.val (.ref a), .val (.long (0 : Int64)), .second] [])
  refine Go.aloadN X0 hx (hb hby d10_0) rfl rfl rfl ?_
  refine Go.getF X0 hx hZ hown (host := "") (Or.inl (wd 25 rfl)) Via.refl e0 Fp (hb hby d10_1) rfl ?_
  intro T1 X1 e1
  refine Go.lloadN X1 hx (hb hby d10_4) rfl rfl  ?_
  refine Go.bipush X1 hx (hb hby d10_5) rfl (16 : Int32) rfl ?_
  refine Go.lushr X1 hx (hb hby d10_7) rfl ?_
  show Go p e below _ T1 (mkF m 8 #[.val (.ref a), .val (.long (0 : Int64)), .second] [(.long ((((0 : Int64)).toUInt64 >>> ((16 : Int32) &&& 0x3f).toInt64.toUInt64).toInt64)), (.ref b)])
  rw [show ((((0 : Int64)).toUInt64 >>> ((16 : Int32) &&& 0x3f).toInt64.toUInt64).toInt64) = (0 : Int64) from by decide]
  refine Go.l2i X1 hx (hb hby d10_8) rfl ?_
  show Go p e below _ T1 (mkF m 9 #[.val (.ref a), .val (.long (0 : Int64)), .second] [(.int (((0 : Int64)).toInt32)), (.ref b)])
  rw [show (((0 : Int64)).toInt32) = (0 : Int32) from by decide]
  refine Go.aaload X1 hx hZ (.ref g) Vb e1 rfl ⟨by decide, by decide⟩ rfl (hb hby d10_9) rfl ?_
  refine Go.lloadN X1 hx (hb hby d10_10) rfl rfl  ?_
  refine Go.l2i X1 hx (hb hby d10_11) rfl ?_
  show Go p e below _ T1 (mkF m 12 #[.val (.ref a), .val (.long (0 : Int64)), .second] [(.int (((0 : Int64)).toInt32)), (.ref g)])
  rw [show (((0 : Int64)).toInt32) = (0 : Int32) from by decide]
  refine Go.ldc X1 hx hZ hown (wd 40 rfl) (hb hby d10_12) rfl ?_
  refine Go.iand X1 hx (hb hby d10_14) rfl ?_
  show Go p e below _ T1 (mkF m 15 #[.val (.ref a), .val (.long (0 : Int64)), .second] [(.int ((0 : Int32) &&& (65535 : Int32))), (.ref g)])
  rw [show ((0 : Int32) &&& (65535 : Int32)) = (0 : Int32) from by decide]
  refine Go.laload X1 hx hZ (.long v0) Vg e1  ⟨by decide, by decide⟩ rfl (hb hby d10_15) rfl ?_
  exact Go.retJ X1 hx hret hlk (hb hby d10_16) rfl ⟨by first | rfl | simp [], rfl, e1⟩ (Nat.le_of_ble_eq_true rfl) (Nat.le_of_ble_eq_true rfl)
set_option maxRecDepth 65536 in
set_option maxHeartbeats 40000000 in
theorem lpG1 (l : Launch) (Z : State) (a0 : Array Value) (hw : ∀ d ∈ tables_1, d.before a0 Z = true) (a b g : Addr) (kb kp : ClassId) (v0 v1 v2 v3 v4 v5 : Int64) (h0 : Heap) (Fp : Fld Z h0 a "com/example/diktyo/diktyo/analysis/LongPages" "pages" "[[J" (.ref b)) (Vb : Arv Z h0 b kb (.array .long) (1 : Int32) [(.ref g)] .null) (Vg : Arv Z h0 g kp .long (65536 : Int32) [(.long v0), (.long v1), (.long v2), (.long v3), (.long v4), (.long v5)] (.long (0 : Int64))) : Pur l Z (⟨"com/example/diktyo/diktyo/analysis/LongPages", "get", "(J)J"⟩ : MethodName) prog_14_method_4_code 3 (some .long) 0 0 #[(.ref a), (.long (1 : Int64))] h0 (some (.long v1)) := by
  refine Ctr.of (plainFor_of_name pn_4) ?_
  have wd : ∀ {d : Jvm.Cond} (i : Nat), tables_1[i]? = some d → d.before a0 Z = true := fun i q => hw _ (List.mem_of_getElem? q)
  intro p e s m below meth c s₁ hx hby hml hown hnm hret hlk hZ X0 e0
  refine Go.cast (ef_10 m a (1 : Int64)) ?_
  show Go p e below _ s₁ (mkF m 0 #[.val (.ref a), .val (.long (1 : Int64)), .second] [])
  refine Go.aloadN X0 hx (hb hby d10_0) rfl rfl rfl ?_
  refine Go.getF X0 hx hZ hown (host := "") (Or.inl (wd 25 rfl)) Via.refl e0 Fp (hb hby d10_1) rfl ?_
  intro T1 X1 e1
  refine Go.lloadN X1 hx (hb hby d10_4) rfl rfl  ?_
  refine Go.bipush X1 hx (hb hby d10_5) rfl (16 : Int32) rfl ?_
  refine Go.lushr X1 hx (hb hby d10_7) rfl ?_
  show Go p e below _ T1 (mkF m 8 #[.val (.ref a), .val (.long (1 : Int64)), .second] [(.long ((((1 : Int64)).toUInt64 >>> ((16 : Int32) &&& 0x3f).toInt64.toUInt64).toInt64)), (.ref b)])
  rw [show ((((1 : Int64)).toUInt64 >>> ((16 : Int32) &&& 0x3f).toInt64.toUInt64).toInt64) = (0 : Int64) from by decide]
  refine Go.l2i X1 hx (hb hby d10_8) rfl ?_
  show Go p e below _ T1 (mkF m 9 #[.val (.ref a), .val (.long (1 : Int64)), .second] [(.int (((0 : Int64)).toInt32)), (.ref b)])
  rw [show (((0 : Int64)).toInt32) = (0 : Int32) from by decide]
  refine Go.aaload X1 hx hZ (.ref g) Vb e1 rfl ⟨by decide, by decide⟩ rfl (hb hby d10_9) rfl ?_
  refine Go.lloadN X1 hx (hb hby d10_10) rfl rfl  ?_
  refine Go.l2i X1 hx (hb hby d10_11) rfl ?_
  show Go p e below _ T1 (mkF m 12 #[.val (.ref a), .val (.long (1 : Int64)), .second] [(.int (((1 : Int64)).toInt32)), (.ref g)])
  rw [show (((1 : Int64)).toInt32) = (1 : Int32) from by decide]
  refine Go.ldc X1 hx hZ hown (wd 40 rfl) (hb hby d10_12) rfl ?_
  refine Go.iand X1 hx (hb hby d10_14) rfl ?_
  show Go p e below _ T1 (mkF m 15 #[.val (.ref a), .val (.long (1 : Int64)), .second] [(.int ((1 : Int32) &&& (65535 : Int32))), (.ref g)])
  rw [show ((1 : Int32) &&& (65535 : Int32)) = (1 : Int32) from by decide]
  refine Go.laload X1 hx hZ (.long v1) Vg e1  ⟨by decide, by decide⟩ rfl (hb hby d10_15) rfl ?_
  exact Go.retJ X1 hx hret hlk (hb hby d10_16) rfl ⟨by first | rfl | simp [], rfl, e1⟩ (Nat.le_of_ble_eq_true rfl) (Nat.le_of_ble_eq_true rfl)
set_option maxRecDepth 65536 in
set_option maxHeartbeats 40000000 in
theorem rmD0 (l : Launch) (Z : State) (a0 : Array Value) (hw : ∀ d ∈ tables_1, d.before a0 Z = true) (a x b g : Addr) (kb kp : ClassId) (v0 v1 v2 v3 v4 v5 : Int64) (h0 : Heap) (Fx : Fld Z h0 a "com/example/diktyo/diktyo/analysis/ReachabilityGraph" "firstEdges" "Lcom/example/diktyo/diktyo/analysis/LongPages;" (.ref x)) (Ex : Exa Z h0 x "com/example/diktyo/diktyo/analysis/LongPages") (Fp : Fld Z h0 x "com/example/diktyo/diktyo/analysis/LongPages" "pages" "[[J" (.ref b)) (Vb : Arv Z h0 b kb (.array .long) (1 : Int32) [(.ref g)] .null) (Vg : Arv Z h0 g kp .long (65536 : Int32) [(.long v0), (.long v1), (.long v2), (.long v3), (.long v4), (.long v5)] (.long (0 : Int64))) : Pur l Z (⟨"com/example/diktyo/diktyo/analysis/ReachabilityGraph", "isDead", "(I)Z"⟩ : MethodName) prog_21_method_8_code 2 (some .boolean) 1 16 #[(.ref a), (.int (0 : Int32))] h0 (some (.int (if v0 = v1 then 1 else 0))) := by
  refine Ctr.of (plainFor_of_name pn_1) ?_
  have wd : ∀ {d : Jvm.Cond} (i : Nat), tables_1[i]? = some d → d.before a0 Z = true := fun i q => hw _ (List.mem_of_getElem? q)
  intro p e s m below meth c s₁ hx hby hml hown hnm hret hlk hZ X0 e0
  refine Go.cast (ef_9 m a (0 : Int32)) ?_
  show Go p e below _ s₁ (mkF m 0 #[.val (.ref a), .val (.int (0 : Int32))] [])
  refine Go.aloadN X0 hx (hb hby d9_0) rfl rfl rfl ?_
  refine Go.getF X0 hx hZ hown (host := "") (Or.inl (wd 45 rfl)) Via.refl e0 Fx (hb hby d9_1) rfl ?_
  intro T1 X1 e1
  refine Go.iloadN X1 hx (hb hby d9_4) rfl rfl  ?_
  refine Go.i2l X1 hx (hb hby d9_5) rfl ?_
  show Go p e below _ T1 (mkF m 6 #[.val (.ref a), .val (.int (0 : Int32))] [(.long (((0 : Int32)).toInt64)), (.ref x)])
  rw [show (((0 : Int32)).toInt64) = (0 : Int64) from by decide]
  refine Go.pureV X1 hx hZ hown (wd 71 rfl) (wd 72 rfl) (notFace_of_selects (args := #[]) (mvT hZ (wd 74 rfl))) (wd 74 rfl) (wd 73 rfl) (wd 18 rfl) (wd 75 rfl) (by decide) [(.long (0 : Int64))] [] Ex (lpG0 l Z a0 hw x b g kb kp v0 v1 v2 v3 v4 v5 h0 Fp Vb Vg) e1 rfl (by rw [hml]; rfl) pd_3 rfl (hb hby d9_6) (Nat.le_of_ble_eq_true rfl) (Nat.le_of_ble_eq_true rfl) (Nat.le_of_ble_eq_true rfl) (Nat.le_of_ble_eq_true rfl) ?_
  intro T2 X2 e2
  refine Go.aloadN X2 hx (hb hby d9_9) rfl rfl rfl ?_
  refine Go.getF X2 hx hZ hown (host := "") (Or.inl (wd 45 rfl)) Via.refl e2 Fx (hb hby d9_10) rfl ?_
  intro T3 X3 e3
  refine Go.iloadN X3 hx (hb hby d9_13) rfl rfl  ?_
  refine Go.iconst X3 hx (hb hby d9_14) rfl (1 : Int32) rfl ?_
  refine Go.iadd X3 hx (hb hby d9_15) rfl ?_
  show Go p e below _ T3 (mkF m 16 #[.val (.ref a), .val (.int (0 : Int32))] [(.int ((0 : Int32) + (1 : Int32))), (.ref x), (.long v0)])
  rw [show ((0 : Int32) + (1 : Int32)) = (1 : Int32) from by decide]
  refine Go.i2l X3 hx (hb hby d9_16) rfl ?_
  show Go p e below _ T3 (mkF m 17 #[.val (.ref a), .val (.int (0 : Int32))] [(.long (((1 : Int32)).toInt64)), (.ref x), (.long v0)])
  rw [show (((1 : Int32)).toInt64) = (1 : Int64) from by decide]
  refine Go.pureV X3 hx hZ hown (wd 71 rfl) (wd 72 rfl) (notFace_of_selects (args := #[]) (mvT hZ (wd 74 rfl))) (wd 74 rfl) (wd 73 rfl) (wd 18 rfl) (wd 75 rfl) (by decide) [(.long (1 : Int64))] [(.long v0)] Ex (lpG1 l Z a0 hw x b g kb kp v0 v1 v2 v3 v4 v5 h0 Fp Vb Vg) e3 rfl (by rw [hml]; rfl) pd_3 rfl (hb hby d9_17) (Nat.le_of_ble_eq_true rfl) (Nat.le_of_ble_eq_true rfl) (Nat.le_of_ble_eq_true rfl) (Nat.le_of_ble_eq_true rfl) ?_
  intro T4 X4 e4
  refine Go.lcmp X4 hx (hb hby d9_20) rfl ?_
  by_cases hc5 : v0 = v1
  · refine Go.ifNo X4 hx (hb hby d9_21) rfl ((if0 _ _).trans (teq ((lw_eq v0 v1).mpr hc5)).2) ?_
    refine Go.iconst X4 hx (hb hby d9_24) rfl (1 : Int32) rfl ?_
    refine Go.goto X4 hx (hb hby d9_25) rfl 29 (by decide) (by decide) ?_
    exact Go.retZ X4 hx (z' := (1 : Int32)) hret hlk (hb hby d9_29) rfl (by decide) ⟨by first | rfl | simp [hc5], rfl, e4⟩ (Nat.le_of_ble_eq_true rfl) (Nat.le_of_ble_eq_true rfl)
  · refine Go.ifYes X4 hx (hb hby d9_21) rfl 28 ((if0 _ _).trans (feq (fun q => hc5 ((lw_eq v0 v1).mp q))).2) (by decide) (by decide) ?_
    refine Go.iconst X4 hx (hb hby d9_28) rfl (0 : Int32) rfl ?_
    exact Go.retZ X4 hx (z' := (0 : Int32)) hret hlk (hb hby d9_29) rfl (by decide) ⟨by first | rfl | simp [hc5], rfl, e4⟩ (Nat.le_of_ble_eq_true rfl) (Nat.le_of_ble_eq_true rfl)
set_option maxRecDepth 65536 in
set_option maxHeartbeats 40000000 in
theorem lpG2 (l : Launch) (Z : State) (a0 : Array Value) (hw : ∀ d ∈ tables_1, d.before a0 Z = true) (a b g : Addr) (kb kp : ClassId) (v0 v1 v2 v3 v4 v5 : Int64) (h0 : Heap) (Fp : Fld Z h0 a "com/example/diktyo/diktyo/analysis/LongPages" "pages" "[[J" (.ref b)) (Vb : Arv Z h0 b kb (.array .long) (1 : Int32) [(.ref g)] .null) (Vg : Arv Z h0 g kp .long (65536 : Int32) [(.long v0), (.long v1), (.long v2), (.long v3), (.long v4), (.long v5)] (.long (0 : Int64))) : Pur l Z (⟨"com/example/diktyo/diktyo/analysis/LongPages", "get", "(J)J"⟩ : MethodName) prog_14_method_4_code 3 (some .long) 0 0 #[(.ref a), (.long (2 : Int64))] h0 (some (.long v2)) := by
  refine Ctr.of (plainFor_of_name pn_4) ?_
  have wd : ∀ {d : Jvm.Cond} (i : Nat), tables_1[i]? = some d → d.before a0 Z = true := fun i q => hw _ (List.mem_of_getElem? q)
  intro p e s m below meth c s₁ hx hby hml hown hnm hret hlk hZ X0 e0
  refine Go.cast (ef_10 m a (2 : Int64)) ?_
  show Go p e below _ s₁ (mkF m 0 #[.val (.ref a), .val (.long (2 : Int64)), .second] [])
  refine Go.aloadN X0 hx (hb hby d10_0) rfl rfl rfl ?_
  refine Go.getF X0 hx hZ hown (host := "") (Or.inl (wd 25 rfl)) Via.refl e0 Fp (hb hby d10_1) rfl ?_
  intro T1 X1 e1
  refine Go.lloadN X1 hx (hb hby d10_4) rfl rfl  ?_
  refine Go.bipush X1 hx (hb hby d10_5) rfl (16 : Int32) rfl ?_
  refine Go.lushr X1 hx (hb hby d10_7) rfl ?_
  show Go p e below _ T1 (mkF m 8 #[.val (.ref a), .val (.long (2 : Int64)), .second] [(.long ((((2 : Int64)).toUInt64 >>> ((16 : Int32) &&& 0x3f).toInt64.toUInt64).toInt64)), (.ref b)])
  rw [show ((((2 : Int64)).toUInt64 >>> ((16 : Int32) &&& 0x3f).toInt64.toUInt64).toInt64) = (0 : Int64) from by decide]
  refine Go.l2i X1 hx (hb hby d10_8) rfl ?_
  show Go p e below _ T1 (mkF m 9 #[.val (.ref a), .val (.long (2 : Int64)), .second] [(.int (((0 : Int64)).toInt32)), (.ref b)])
  rw [show (((0 : Int64)).toInt32) = (0 : Int32) from by decide]
  refine Go.aaload X1 hx hZ (.ref g) Vb e1 rfl ⟨by decide, by decide⟩ rfl (hb hby d10_9) rfl ?_
  refine Go.lloadN X1 hx (hb hby d10_10) rfl rfl  ?_
  refine Go.l2i X1 hx (hb hby d10_11) rfl ?_
  show Go p e below _ T1 (mkF m 12 #[.val (.ref a), .val (.long (2 : Int64)), .second] [(.int (((2 : Int64)).toInt32)), (.ref g)])
  rw [show (((2 : Int64)).toInt32) = (2 : Int32) from by decide]
  refine Go.ldc X1 hx hZ hown (wd 40 rfl) (hb hby d10_12) rfl ?_
  refine Go.iand X1 hx (hb hby d10_14) rfl ?_
  show Go p e below _ T1 (mkF m 15 #[.val (.ref a), .val (.long (2 : Int64)), .second] [(.int ((2 : Int32) &&& (65535 : Int32))), (.ref g)])
  rw [show ((2 : Int32) &&& (65535 : Int32)) = (2 : Int32) from by decide]
  refine Go.laload X1 hx hZ (.long v2) Vg e1  ⟨by decide, by decide⟩ rfl (hb hby d10_15) rfl ?_
  exact Go.retJ X1 hx hret hlk (hb hby d10_16) rfl ⟨by first | rfl | simp [], rfl, e1⟩ (Nat.le_of_ble_eq_true rfl) (Nat.le_of_ble_eq_true rfl)
set_option maxRecDepth 65536 in
set_option maxHeartbeats 40000000 in
theorem rmD1 (l : Launch) (Z : State) (a0 : Array Value) (hw : ∀ d ∈ tables_1, d.before a0 Z = true) (a x b g : Addr) (kb kp : ClassId) (v0 v1 v2 v3 v4 v5 : Int64) (h0 : Heap) (Fx : Fld Z h0 a "com/example/diktyo/diktyo/analysis/ReachabilityGraph" "firstEdges" "Lcom/example/diktyo/diktyo/analysis/LongPages;" (.ref x)) (Ex : Exa Z h0 x "com/example/diktyo/diktyo/analysis/LongPages") (Fp : Fld Z h0 x "com/example/diktyo/diktyo/analysis/LongPages" "pages" "[[J" (.ref b)) (Vb : Arv Z h0 b kb (.array .long) (1 : Int32) [(.ref g)] .null) (Vg : Arv Z h0 g kp .long (65536 : Int32) [(.long v0), (.long v1), (.long v2), (.long v3), (.long v4), (.long v5)] (.long (0 : Int64))) : Pur l Z (⟨"com/example/diktyo/diktyo/analysis/ReachabilityGraph", "isDead", "(I)Z"⟩ : MethodName) prog_21_method_8_code 2 (some .boolean) 1 16 #[(.ref a), (.int (1 : Int32))] h0 (some (.int (if v1 = v2 then 1 else 0))) := by
  refine Ctr.of (plainFor_of_name pn_1) ?_
  have wd : ∀ {d : Jvm.Cond} (i : Nat), tables_1[i]? = some d → d.before a0 Z = true := fun i q => hw _ (List.mem_of_getElem? q)
  intro p e s m below meth c s₁ hx hby hml hown hnm hret hlk hZ X0 e0
  refine Go.cast (ef_9 m a (1 : Int32)) ?_
  show Go p e below _ s₁ (mkF m 0 #[.val (.ref a), .val (.int (1 : Int32))] [])
  refine Go.aloadN X0 hx (hb hby d9_0) rfl rfl rfl ?_
  refine Go.getF X0 hx hZ hown (host := "") (Or.inl (wd 45 rfl)) Via.refl e0 Fx (hb hby d9_1) rfl ?_
  intro T1 X1 e1
  refine Go.iloadN X1 hx (hb hby d9_4) rfl rfl  ?_
  refine Go.i2l X1 hx (hb hby d9_5) rfl ?_
  show Go p e below _ T1 (mkF m 6 #[.val (.ref a), .val (.int (1 : Int32))] [(.long (((1 : Int32)).toInt64)), (.ref x)])
  rw [show (((1 : Int32)).toInt64) = (1 : Int64) from by decide]
  refine Go.pureV X1 hx hZ hown (wd 71 rfl) (wd 72 rfl) (notFace_of_selects (args := #[]) (mvT hZ (wd 74 rfl))) (wd 74 rfl) (wd 73 rfl) (wd 18 rfl) (wd 75 rfl) (by decide) [(.long (1 : Int64))] [] Ex (lpG1 l Z a0 hw x b g kb kp v0 v1 v2 v3 v4 v5 h0 Fp Vb Vg) e1 rfl (by rw [hml]; rfl) pd_3 rfl (hb hby d9_6) (Nat.le_of_ble_eq_true rfl) (Nat.le_of_ble_eq_true rfl) (Nat.le_of_ble_eq_true rfl) (Nat.le_of_ble_eq_true rfl) ?_
  intro T2 X2 e2
  refine Go.aloadN X2 hx (hb hby d9_9) rfl rfl rfl ?_
  refine Go.getF X2 hx hZ hown (host := "") (Or.inl (wd 45 rfl)) Via.refl e2 Fx (hb hby d9_10) rfl ?_
  intro T3 X3 e3
  refine Go.iloadN X3 hx (hb hby d9_13) rfl rfl  ?_
  refine Go.iconst X3 hx (hb hby d9_14) rfl (1 : Int32) rfl ?_
  refine Go.iadd X3 hx (hb hby d9_15) rfl ?_
  show Go p e below _ T3 (mkF m 16 #[.val (.ref a), .val (.int (1 : Int32))] [(.int ((1 : Int32) + (1 : Int32))), (.ref x), (.long v1)])
  rw [show ((1 : Int32) + (1 : Int32)) = (2 : Int32) from by decide]
  refine Go.i2l X3 hx (hb hby d9_16) rfl ?_
  show Go p e below _ T3 (mkF m 17 #[.val (.ref a), .val (.int (1 : Int32))] [(.long (((2 : Int32)).toInt64)), (.ref x), (.long v1)])
  rw [show (((2 : Int32)).toInt64) = (2 : Int64) from by decide]
  refine Go.pureV X3 hx hZ hown (wd 71 rfl) (wd 72 rfl) (notFace_of_selects (args := #[]) (mvT hZ (wd 74 rfl))) (wd 74 rfl) (wd 73 rfl) (wd 18 rfl) (wd 75 rfl) (by decide) [(.long (2 : Int64))] [(.long v1)] Ex (lpG2 l Z a0 hw x b g kb kp v0 v1 v2 v3 v4 v5 h0 Fp Vb Vg) e3 rfl (by rw [hml]; rfl) pd_3 rfl (hb hby d9_17) (Nat.le_of_ble_eq_true rfl) (Nat.le_of_ble_eq_true rfl) (Nat.le_of_ble_eq_true rfl) (Nat.le_of_ble_eq_true rfl) ?_
  intro T4 X4 e4
  refine Go.lcmp X4 hx (hb hby d9_20) rfl ?_
  by_cases hc5 : v1 = v2
  · refine Go.ifNo X4 hx (hb hby d9_21) rfl ((if0 _ _).trans (teq ((lw_eq v1 v2).mpr hc5)).2) ?_
    refine Go.iconst X4 hx (hb hby d9_24) rfl (1 : Int32) rfl ?_
    refine Go.goto X4 hx (hb hby d9_25) rfl 29 (by decide) (by decide) ?_
    exact Go.retZ X4 hx (z' := (1 : Int32)) hret hlk (hb hby d9_29) rfl (by decide) ⟨by first | rfl | simp [hc5], rfl, e4⟩ (Nat.le_of_ble_eq_true rfl) (Nat.le_of_ble_eq_true rfl)
  · refine Go.ifYes X4 hx (hb hby d9_21) rfl 28 ((if0 _ _).trans (feq (fun q => hc5 ((lw_eq v1 v2).mp q))).2) (by decide) (by decide) ?_
    refine Go.iconst X4 hx (hb hby d9_28) rfl (0 : Int32) rfl ?_
    exact Go.retZ X4 hx (z' := (0 : Int32)) hret hlk (hb hby d9_29) rfl (by decide) ⟨by first | rfl | simp [hc5], rfl, e4⟩ (Nat.le_of_ble_eq_true rfl) (Nat.le_of_ble_eq_true rfl)
set_option maxRecDepth 65536 in
set_option maxHeartbeats 40000000 in
theorem lpG3 (l : Launch) (Z : State) (a0 : Array Value) (hw : ∀ d ∈ tables_1, d.before a0 Z = true) (a b g : Addr) (kb kp : ClassId) (v0 v1 v2 v3 v4 v5 : Int64) (h0 : Heap) (Fp : Fld Z h0 a "com/example/diktyo/diktyo/analysis/LongPages" "pages" "[[J" (.ref b)) (Vb : Arv Z h0 b kb (.array .long) (1 : Int32) [(.ref g)] .null) (Vg : Arv Z h0 g kp .long (65536 : Int32) [(.long v0), (.long v1), (.long v2), (.long v3), (.long v4), (.long v5)] (.long (0 : Int64))) : Pur l Z (⟨"com/example/diktyo/diktyo/analysis/LongPages", "get", "(J)J"⟩ : MethodName) prog_14_method_4_code 3 (some .long) 0 0 #[(.ref a), (.long (3 : Int64))] h0 (some (.long v3)) := by
  refine Ctr.of (plainFor_of_name pn_4) ?_
  have wd : ∀ {d : Jvm.Cond} (i : Nat), tables_1[i]? = some d → d.before a0 Z = true := fun i q => hw _ (List.mem_of_getElem? q)
  intro p e s m below meth c s₁ hx hby hml hown hnm hret hlk hZ X0 e0
  refine Go.cast (ef_10 m a (3 : Int64)) ?_
  show Go p e below _ s₁ (mkF m 0 #[.val (.ref a), .val (.long (3 : Int64)), .second] [])
  refine Go.aloadN X0 hx (hb hby d10_0) rfl rfl rfl ?_
  refine Go.getF X0 hx hZ hown (host := "") (Or.inl (wd 25 rfl)) Via.refl e0 Fp (hb hby d10_1) rfl ?_
  intro T1 X1 e1
  refine Go.lloadN X1 hx (hb hby d10_4) rfl rfl  ?_
  refine Go.bipush X1 hx (hb hby d10_5) rfl (16 : Int32) rfl ?_
  refine Go.lushr X1 hx (hb hby d10_7) rfl ?_
  show Go p e below _ T1 (mkF m 8 #[.val (.ref a), .val (.long (3 : Int64)), .second] [(.long ((((3 : Int64)).toUInt64 >>> ((16 : Int32) &&& 0x3f).toInt64.toUInt64).toInt64)), (.ref b)])
  rw [show ((((3 : Int64)).toUInt64 >>> ((16 : Int32) &&& 0x3f).toInt64.toUInt64).toInt64) = (0 : Int64) from by decide]
  refine Go.l2i X1 hx (hb hby d10_8) rfl ?_
  show Go p e below _ T1 (mkF m 9 #[.val (.ref a), .val (.long (3 : Int64)), .second] [(.int (((0 : Int64)).toInt32)), (.ref b)])
  rw [show (((0 : Int64)).toInt32) = (0 : Int32) from by decide]
  refine Go.aaload X1 hx hZ (.ref g) Vb e1 rfl ⟨by decide, by decide⟩ rfl (hb hby d10_9) rfl ?_
  refine Go.lloadN X1 hx (hb hby d10_10) rfl rfl  ?_
  refine Go.l2i X1 hx (hb hby d10_11) rfl ?_
  show Go p e below _ T1 (mkF m 12 #[.val (.ref a), .val (.long (3 : Int64)), .second] [(.int (((3 : Int64)).toInt32)), (.ref g)])
  rw [show (((3 : Int64)).toInt32) = (3 : Int32) from by decide]
  refine Go.ldc X1 hx hZ hown (wd 40 rfl) (hb hby d10_12) rfl ?_
  refine Go.iand X1 hx (hb hby d10_14) rfl ?_
  show Go p e below _ T1 (mkF m 15 #[.val (.ref a), .val (.long (3 : Int64)), .second] [(.int ((3 : Int32) &&& (65535 : Int32))), (.ref g)])
  rw [show ((3 : Int32) &&& (65535 : Int32)) = (3 : Int32) from by decide]
  refine Go.laload X1 hx hZ (.long v3) Vg e1  ⟨by decide, by decide⟩ rfl (hb hby d10_15) rfl ?_
  exact Go.retJ X1 hx hret hlk (hb hby d10_16) rfl ⟨by first | rfl | simp [], rfl, e1⟩ (Nat.le_of_ble_eq_true rfl) (Nat.le_of_ble_eq_true rfl)
set_option maxRecDepth 65536 in
set_option maxHeartbeats 40000000 in
theorem rmD2 (l : Launch) (Z : State) (a0 : Array Value) (hw : ∀ d ∈ tables_1, d.before a0 Z = true) (a x b g : Addr) (kb kp : ClassId) (v0 v1 v2 v3 v4 v5 : Int64) (h0 : Heap) (Fx : Fld Z h0 a "com/example/diktyo/diktyo/analysis/ReachabilityGraph" "firstEdges" "Lcom/example/diktyo/diktyo/analysis/LongPages;" (.ref x)) (Ex : Exa Z h0 x "com/example/diktyo/diktyo/analysis/LongPages") (Fp : Fld Z h0 x "com/example/diktyo/diktyo/analysis/LongPages" "pages" "[[J" (.ref b)) (Vb : Arv Z h0 b kb (.array .long) (1 : Int32) [(.ref g)] .null) (Vg : Arv Z h0 g kp .long (65536 : Int32) [(.long v0), (.long v1), (.long v2), (.long v3), (.long v4), (.long v5)] (.long (0 : Int64))) : Pur l Z (⟨"com/example/diktyo/diktyo/analysis/ReachabilityGraph", "isDead", "(I)Z"⟩ : MethodName) prog_21_method_8_code 2 (some .boolean) 1 16 #[(.ref a), (.int (2 : Int32))] h0 (some (.int (if v2 = v3 then 1 else 0))) := by
  refine Ctr.of (plainFor_of_name pn_1) ?_
  have wd : ∀ {d : Jvm.Cond} (i : Nat), tables_1[i]? = some d → d.before a0 Z = true := fun i q => hw _ (List.mem_of_getElem? q)
  intro p e s m below meth c s₁ hx hby hml hown hnm hret hlk hZ X0 e0
  refine Go.cast (ef_9 m a (2 : Int32)) ?_
  show Go p e below _ s₁ (mkF m 0 #[.val (.ref a), .val (.int (2 : Int32))] [])
  refine Go.aloadN X0 hx (hb hby d9_0) rfl rfl rfl ?_
  refine Go.getF X0 hx hZ hown (host := "") (Or.inl (wd 45 rfl)) Via.refl e0 Fx (hb hby d9_1) rfl ?_
  intro T1 X1 e1
  refine Go.iloadN X1 hx (hb hby d9_4) rfl rfl  ?_
  refine Go.i2l X1 hx (hb hby d9_5) rfl ?_
  show Go p e below _ T1 (mkF m 6 #[.val (.ref a), .val (.int (2 : Int32))] [(.long (((2 : Int32)).toInt64)), (.ref x)])
  rw [show (((2 : Int32)).toInt64) = (2 : Int64) from by decide]
  refine Go.pureV X1 hx hZ hown (wd 71 rfl) (wd 72 rfl) (notFace_of_selects (args := #[]) (mvT hZ (wd 74 rfl))) (wd 74 rfl) (wd 73 rfl) (wd 18 rfl) (wd 75 rfl) (by decide) [(.long (2 : Int64))] [] Ex (lpG2 l Z a0 hw x b g kb kp v0 v1 v2 v3 v4 v5 h0 Fp Vb Vg) e1 rfl (by rw [hml]; rfl) pd_3 rfl (hb hby d9_6) (Nat.le_of_ble_eq_true rfl) (Nat.le_of_ble_eq_true rfl) (Nat.le_of_ble_eq_true rfl) (Nat.le_of_ble_eq_true rfl) ?_
  intro T2 X2 e2
  refine Go.aloadN X2 hx (hb hby d9_9) rfl rfl rfl ?_
  refine Go.getF X2 hx hZ hown (host := "") (Or.inl (wd 45 rfl)) Via.refl e2 Fx (hb hby d9_10) rfl ?_
  intro T3 X3 e3
  refine Go.iloadN X3 hx (hb hby d9_13) rfl rfl  ?_
  refine Go.iconst X3 hx (hb hby d9_14) rfl (1 : Int32) rfl ?_
  refine Go.iadd X3 hx (hb hby d9_15) rfl ?_
  show Go p e below _ T3 (mkF m 16 #[.val (.ref a), .val (.int (2 : Int32))] [(.int ((2 : Int32) + (1 : Int32))), (.ref x), (.long v2)])
  rw [show ((2 : Int32) + (1 : Int32)) = (3 : Int32) from by decide]
  refine Go.i2l X3 hx (hb hby d9_16) rfl ?_
  show Go p e below _ T3 (mkF m 17 #[.val (.ref a), .val (.int (2 : Int32))] [(.long (((3 : Int32)).toInt64)), (.ref x), (.long v2)])
  rw [show (((3 : Int32)).toInt64) = (3 : Int64) from by decide]
  refine Go.pureV X3 hx hZ hown (wd 71 rfl) (wd 72 rfl) (notFace_of_selects (args := #[]) (mvT hZ (wd 74 rfl))) (wd 74 rfl) (wd 73 rfl) (wd 18 rfl) (wd 75 rfl) (by decide) [(.long (3 : Int64))] [(.long v2)] Ex (lpG3 l Z a0 hw x b g kb kp v0 v1 v2 v3 v4 v5 h0 Fp Vb Vg) e3 rfl (by rw [hml]; rfl) pd_3 rfl (hb hby d9_17) (Nat.le_of_ble_eq_true rfl) (Nat.le_of_ble_eq_true rfl) (Nat.le_of_ble_eq_true rfl) (Nat.le_of_ble_eq_true rfl) ?_
  intro T4 X4 e4
  refine Go.lcmp X4 hx (hb hby d9_20) rfl ?_
  by_cases hc5 : v2 = v3
  · refine Go.ifNo X4 hx (hb hby d9_21) rfl ((if0 _ _).trans (teq ((lw_eq v2 v3).mpr hc5)).2) ?_
    refine Go.iconst X4 hx (hb hby d9_24) rfl (1 : Int32) rfl ?_
    refine Go.goto X4 hx (hb hby d9_25) rfl 29 (by decide) (by decide) ?_
    exact Go.retZ X4 hx (z' := (1 : Int32)) hret hlk (hb hby d9_29) rfl (by decide) ⟨by first | rfl | simp [hc5], rfl, e4⟩ (Nat.le_of_ble_eq_true rfl) (Nat.le_of_ble_eq_true rfl)
  · refine Go.ifYes X4 hx (hb hby d9_21) rfl 28 ((if0 _ _).trans (feq (fun q => hc5 ((lw_eq v2 v3).mp q))).2) (by decide) (by decide) ?_
    refine Go.iconst X4 hx (hb hby d9_28) rfl (0 : Int32) rfl ?_
    exact Go.retZ X4 hx (z' := (0 : Int32)) hret hlk (hb hby d9_29) rfl (by decide) ⟨by first | rfl | simp [hc5], rfl, e4⟩ (Nat.le_of_ble_eq_true rfl) (Nat.le_of_ble_eq_true rfl)
theorem d11_0 : decode prog_21_method_4_code 0 = .ok (.aload_n 0, 1) := by decide +kernel
theorem d11_1 : decode prog_21_method_4_code 1 = .ok (.getfield 23, 3) := by decide +kernel
theorem d11_4 : decode prog_21_method_4_code 4 = .ok (.iload_n 1, 1) := by decide +kernel
theorem d11_5 : decode prog_21_method_4_code 5 = .ok (.iload_n 2, 1) := by decide +kernel
theorem d11_6 : decode prog_21_method_4_code 6 = .ok (.invokestatic 34, 3) := by decide +kernel
theorem d11_9 : decode prog_21_method_4_code 9 = .ok (.invokevirtual 30, 3) := by decide +kernel
theorem d11_12 : decode prog_21_method_4_code 12 = .ok (.return_, 1) := by decide +kernel
theorem ef_11 (m : MethodId) (x0 : Addr) (x1 : Int32) (x2 : Int32) : entryFrame m #[(.ref x0), (.int x1), (.int x2)] 3 = mkF m 0 #[.val (.ref x0), .val (.int x1), .val (.int x2)] [] := by first | (simp [entryFrame, mkF, argsToLocals, Value.category]; done) | rfl
set_option maxRecDepth 65536 in
set_option maxHeartbeats 40000000 in
theorem rm_addEdge_0 (l : Launch) (Z : State) (a0 : Array Value) (hw : ∀ d ∈ tables_1, d.before a0 Z = true) (a x b : Addr) (kb : ClassId) (t r : Int32) (h0 : Heap) (O0 : Old Z Z.heap.size h0) (Fx : Fld Z h0 a "com/example/diktyo/diktyo/analysis/ReachabilityGraph" "edges" "Lcom/example/diktyo/diktyo/analysis/LongPages;" (.ref x)) (Ex : Exa Z h0 x "com/example/diktyo/diktyo/analysis/LongPages") (gx : Z.heap.size ≤ x) (nax : a ≠ x) (nab : a ≠ b) (nxb : x ≠ b) (Fp : Fld Z h0 x "com/example/diktyo/diktyo/analysis/LongPages" "pages" "[[J" (.ref b)) (Fs : Fld Z h0 x "com/example/diktyo/diktyo/analysis/LongPages" "size" "J" (.long (0 : Int64))) (gb : Z.heap.size ≤ b) (Vb : Arv Z h0 b kb (.array .long) (1 : Int32) [.null] .null) (Ov : OvrA Z kb .long "[J") : Ctr l Z (⟨"com/example/diktyo/diktyo/analysis/ReachabilityGraph", "addEdge", "(II)V"⟩ : MethodName) prog_21_method_4_code 3 none ({ frames := 1, cells := 1, slots := 65536, locals := 15 } : Room) #[(.ref a), (.int t), (.int r)] h0 (fun v' h L => v' = none ∧ Fr Z.heap.size L ∧ Keep h0 h [x, b] ∧ Exa Z h x "com/example/diktyo/diktyo/analysis/LongPages" ∧ ∃ (g : Addr) (kp : ClassId), h0.size ≤ g ∧ Fld Z h x "com/example/diktyo/diktyo/analysis/LongPages" "pages" "[[J" (.ref b) ∧ Fld Z h x "com/example/diktyo/diktyo/analysis/LongPages" "size" "J" (.long (1 : Int64)) ∧ Arv Z h b kb (.array .long) (1 : Int32) [(.ref g)] .null ∧ Arv Z h g kp .long (65536 : Int32) [(.long ((((t).toInt64) <<< ((32 : Int32) &&& 0x3f).toInt64) ||| (((r).toInt64) &&& (4294967295 : Int64)))), (.long (0 : Int64)), (.long (0 : Int64)), (.long (0 : Int64)), (.long (0 : Int64)), (.long (0 : Int64))] (.long (0 : Int64))) := by
  refine Ctr.of (plainFor_of_name pn_1) ?_
  have wd : ∀ {d : Jvm.Cond} (i : Nat), tables_1[i]? = some d → d.before a0 Z = true := fun i q => hw _ (List.mem_of_getElem? q)
  intro p e s m below meth c s₁ hx hby hml hown hnm hret hlk hZ X0 e0
  refine Go.cast (ef_11 m a t r) ?_
  show Go p e below _ s₁ (mkF m 0 #[.val (.ref a), .val (.int t), .val (.int r)] [])
  refine Go.aloadN X0 hx (hb hby d11_0) rfl rfl rfl ?_
  refine Go.getF X0 hx hZ hown (host := "") (Or.inl (wd 47 rfl)) Via.refl e0 Fx (hb hby d11_1) rfl ?_
  intro T1 X1 e1
  refine Go.iloadN X1 hx (hb hby d11_4) rfl rfl  ?_
  refine Go.iloadN X1 hx (hb hby d11_5) rfl rfl  ?_
  refine Go.pureS X1 hx hZ hown (wd 81 rfl) (wd 82 rfl) (wd 2 rfl) (wd 83 rfl) (by decide) [(.int t), (.int r)] [(.ref x)] (rmE l Z a0 hw t r h0) e1 rfl (by rw [hml]; rfl) pd_5 rfl (hb hby d11_6) (Nat.le_of_ble_eq_true rfl) (Nat.le_of_ble_eq_true rfl) (Nat.le_of_ble_eq_true rfl) (Nat.le_of_ble_eq_true rfl) ?_
  intro T2 X2 e2
  refine Go.callV X2 hx hZ hown (wd 59 rfl) (wd 31 rfl) (notFace_of_selects (args := #[]) (mvT hZ (wd 33 rfl))) (wd 33 rfl) (wd 32 rfl) (wd 18 rfl) (wd 34 rfl) (by decide) [(.long ((((t).toInt64) <<< ((32 : Int32) &&& 0x3f).toInt64) ||| (((r).toInt64) &&& (4294967295 : Int64))))] [] Ex (lpA0 l Z a0 hw x b kb ((((t).toInt64) <<< ((32 : Int32) &&& 0x3f).toInt64) ||| (((r).toInt64) &&& (4294967295 : Int64))) h0 O0 Ex gx gb nxb Fp Fs Vb Ov) e2 rfl (by rw [hml]; rfl) pd_1 rfl (hb hby d11_9) (Nat.le_of_ble_eq_true rfl) (Nat.le_of_ble_eq_true rfl) (Nat.le_of_ble_eq_true rfl) (Nat.le_of_ble_eq_true rfl) ?_
  rintro vv3 T3 L3 X3 Q3
  obtain ⟨rfl, N3, K3, E3, g3, k3, sz3, Fp3, Fs3, Vb3, Vg3⟩ := Q3
  have M4 := Fr.app (Fr.nil _) N3
  have q3 : Z.heap.size ≤ g3 := Nat.le_trans O0.2.1 sz3
  have z3 : h0.size ≤ g3 := Nat.le_trans (Keep.refl h0 [x, b]).1 sz3
  have ne_a_g3 : a ≠ g3 := Nat.ne_of_lt (Nat.lt_of_lt_of_le Fx.lt sz3)
  have ne_x_g3 : x ≠ g3 := Nat.ne_of_lt (Nat.lt_of_lt_of_le Ex.lt sz3)
  have ne_b_g3 : b ≠ g3 := Nat.ne_of_lt (Nat.lt_of_lt_of_le Vb.lt sz3)
  have O5 := O0.keep K3 (allS gx (allS gb (all0)))
  have K6 := Keep.trans (Keep.refl h0 [x, b]) K3 (allS (Or.inl (List.mem_of_getElem? (i := 0) rfl)) (allS (Or.inl (List.mem_of_getElem? (i := 1) rfl)) (all0)))
  have F7 := Fx.keep K3 (ninS nax (ninS nab (nin0)))
  have E8 := Ex.keep K3
  exact Go.retV X3 hx hret hlk (hb hby d11_12) rfl ⟨rfl, M4, K6, E3, g3, k3, z3, Fp3, Fs3, Vb3, Vg3⟩ (Nat.le_of_ble_eq_true rfl) (Nat.le_of_ble_eq_true rfl)
set_option maxRecDepth 65536 in
set_option maxHeartbeats 40000000 in
theorem rm_addEdge_1 (l : Launch) (Z : State) (a0 : Array Value) (hw : ∀ d ∈ tables_1, d.before a0 Z = true) (a x b : Addr) (kb : ClassId) (g : Addr) (kp : ClassId) (v0 v1 v2 v3 v4 v5 : Int64) (t r : Int32) (h0 : Heap) (O0 : Old Z Z.heap.size h0) (Fx : Fld Z h0 a "com/example/diktyo/diktyo/analysis/ReachabilityGraph" "edges" "Lcom/example/diktyo/diktyo/analysis/LongPages;" (.ref x)) (Ex : Exa Z h0 x "com/example/diktyo/diktyo/analysis/LongPages") (gx : Z.heap.size ≤ x) (nax : a ≠ x) (nab : a ≠ b) (nxb : x ≠ b) (Fp : Fld Z h0 x "com/example/diktyo/diktyo/analysis/LongPages" "pages" "[[J" (.ref b)) (Fs : Fld Z h0 x "com/example/diktyo/diktyo/analysis/LongPages" "size" "J" (.long (1 : Int64))) (gg : Z.heap.size ≤ g) (nag : a ≠ g) (nxg : x ≠ g) (nbg : b ≠ g) (Vb : Arv Z h0 b kb (.array .long) (1 : Int32) [(.ref g)] .null) (Vg : Arv Z h0 g kp .long (65536 : Int32) [(.long v0), (.long v1), (.long v2), (.long v3), (.long v4), (.long v5)] (.long (0 : Int64))) : Ctr l Z (⟨"com/example/diktyo/diktyo/analysis/ReachabilityGraph", "addEdge", "(II)V"⟩ : MethodName) prog_21_method_4_code 3 none ({ frames := 1, cells := 0, slots := 0, locals := 15 } : Room) #[(.ref a), (.int t), (.int r)] h0 (fun v' h L => v' = none ∧ Fr Z.heap.size L ∧ Keep h0 h [x, g] ∧ Exa Z h x "com/example/diktyo/diktyo/analysis/LongPages" ∧ Fld Z h x "com/example/diktyo/diktyo/analysis/LongPages" "pages" "[[J" (.ref b) ∧ Fld Z h x "com/example/diktyo/diktyo/analysis/LongPages" "size" "J" (.long (2 : Int64)) ∧ Arv Z h b kb (.array .long) (1 : Int32) [(.ref g)] .null ∧ Arv Z h g kp .long (65536 : Int32) [(.long v0), (.long ((((t).toInt64) <<< ((32 : Int32) &&& 0x3f).toInt64) ||| (((r).toInt64) &&& (4294967295 : Int64)))), (.long v2), (.long v3), (.long v4), (.long v5)] (.long (0 : Int64))) := by
  refine Ctr.of (plainFor_of_name pn_1) ?_
  have wd : ∀ {d : Jvm.Cond} (i : Nat), tables_1[i]? = some d → d.before a0 Z = true := fun i q => hw _ (List.mem_of_getElem? q)
  intro p e s m below meth c s₁ hx hby hml hown hnm hret hlk hZ X0 e0
  refine Go.cast (ef_11 m a t r) ?_
  show Go p e below _ s₁ (mkF m 0 #[.val (.ref a), .val (.int t), .val (.int r)] [])
  refine Go.aloadN X0 hx (hb hby d11_0) rfl rfl rfl ?_
  refine Go.getF X0 hx hZ hown (host := "") (Or.inl (wd 47 rfl)) Via.refl e0 Fx (hb hby d11_1) rfl ?_
  intro T1 X1 e1
  refine Go.iloadN X1 hx (hb hby d11_4) rfl rfl  ?_
  refine Go.iloadN X1 hx (hb hby d11_5) rfl rfl  ?_
  refine Go.pureS X1 hx hZ hown (wd 81 rfl) (wd 82 rfl) (wd 2 rfl) (wd 83 rfl) (by decide) [(.int t), (.int r)] [(.ref x)] (rmE l Z a0 hw t r h0) e1 rfl (by rw [hml]; rfl) pd_5 rfl (hb hby d11_6) (Nat.le_of_ble_eq_true rfl) (Nat.le_of_ble_eq_true rfl) (Nat.le_of_ble_eq_true rfl) (Nat.le_of_ble_eq_true rfl) ?_
  intro T2 X2 e2
  refine Go.callV X2 hx hZ hown (wd 59 rfl) (wd 31 rfl) (notFace_of_selects (args := #[]) (mvT hZ (wd 33 rfl))) (wd 33 rfl) (wd 32 rfl) (wd 18 rfl) (wd 34 rfl) (by decide) [(.long ((((t).toInt64) <<< ((32 : Int32) &&& 0x3f).toInt64) ||| (((r).toInt64) &&& (4294967295 : Int64))))] [] Ex (lpA1 l Z a0 hw x b g kb kp ((((t).toInt64) <<< ((32 : Int32) &&& 0x3f).toInt64) ||| (((r).toInt64) &&& (4294967295 : Int64))) v0 v1 v2 v3 v4 v5 h0 O0 Ex gx gg nxb nxg nbg Fp Fs Vb Vg) e2 rfl (by rw [hml]; rfl) pd_1 rfl (hb hby d11_9) (Nat.le_of_ble_eq_true rfl) (Nat.le_of_ble_eq_true rfl) (Nat.le_of_ble_eq_true rfl) (Nat.le_of_ble_eq_true rfl) ?_
  rintro vv3 T3 L3 X3 Q3
  obtain ⟨rfl, N3, K3, E3, Fp3, Fs3, Vb3, Vg3⟩ := Q3
  have M4 := Fr.app (Fr.nil _) N3
  have O5 := O0.keep K3 (allS gx (allS gg (all0)))
  have K6 := Keep.trans (Keep.refl h0 [x, g]) K3 (allS (Or.inl (List.mem_of_getElem? (i := 0) rfl)) (allS (Or.inl (List.mem_of_getElem? (i := 1) rfl)) (all0)))
  have F7 := Fx.keep K3 (ninS nax (ninS nag (nin0)))
  have E8 := Ex.keep K3
  have V9 := Vb.keep K3 (ninS (Ne.symm nxb) (ninS nbg (nin0)))
  exact Go.retV X3 hx hret hlk (hb hby d11_12) rfl ⟨rfl, M4, K6, E3, Fp3, Fs3, V9, Vg3⟩ (Nat.le_of_ble_eq_true rfl) (Nat.le_of_ble_eq_true rfl)
set_option maxRecDepth 65536 in
set_option maxHeartbeats 40000000 in
theorem rm_addEdge_2 (l : Launch) (Z : State) (a0 : Array Value) (hw : ∀ d ∈ tables_1, d.before a0 Z = true) (a x b : Addr) (kb : ClassId) (g : Addr) (kp : ClassId) (v0 v1 v2 v3 v4 v5 : Int64) (t r : Int32) (h0 : Heap) (O0 : Old Z Z.heap.size h0) (Fx : Fld Z h0 a "com/example/diktyo/diktyo/analysis/ReachabilityGraph" "edges" "Lcom/example/diktyo/diktyo/analysis/LongPages;" (.ref x)) (Ex : Exa Z h0 x "com/example/diktyo/diktyo/analysis/LongPages") (gx : Z.heap.size ≤ x) (nax : a ≠ x) (nab : a ≠ b) (nxb : x ≠ b) (Fp : Fld Z h0 x "com/example/diktyo/diktyo/analysis/LongPages" "pages" "[[J" (.ref b)) (Fs : Fld Z h0 x "com/example/diktyo/diktyo/analysis/LongPages" "size" "J" (.long (2 : Int64))) (gg : Z.heap.size ≤ g) (nag : a ≠ g) (nxg : x ≠ g) (nbg : b ≠ g) (Vb : Arv Z h0 b kb (.array .long) (1 : Int32) [(.ref g)] .null) (Vg : Arv Z h0 g kp .long (65536 : Int32) [(.long v0), (.long v1), (.long v2), (.long v3), (.long v4), (.long v5)] (.long (0 : Int64))) : Ctr l Z (⟨"com/example/diktyo/diktyo/analysis/ReachabilityGraph", "addEdge", "(II)V"⟩ : MethodName) prog_21_method_4_code 3 none ({ frames := 1, cells := 0, slots := 0, locals := 15 } : Room) #[(.ref a), (.int t), (.int r)] h0 (fun v' h L => v' = none ∧ Fr Z.heap.size L ∧ Keep h0 h [x, g] ∧ Exa Z h x "com/example/diktyo/diktyo/analysis/LongPages" ∧ Fld Z h x "com/example/diktyo/diktyo/analysis/LongPages" "pages" "[[J" (.ref b) ∧ Fld Z h x "com/example/diktyo/diktyo/analysis/LongPages" "size" "J" (.long (3 : Int64)) ∧ Arv Z h b kb (.array .long) (1 : Int32) [(.ref g)] .null ∧ Arv Z h g kp .long (65536 : Int32) [(.long v0), (.long v1), (.long ((((t).toInt64) <<< ((32 : Int32) &&& 0x3f).toInt64) ||| (((r).toInt64) &&& (4294967295 : Int64)))), (.long v3), (.long v4), (.long v5)] (.long (0 : Int64))) := by
  refine Ctr.of (plainFor_of_name pn_1) ?_
  have wd : ∀ {d : Jvm.Cond} (i : Nat), tables_1[i]? = some d → d.before a0 Z = true := fun i q => hw _ (List.mem_of_getElem? q)
  intro p e s m below meth c s₁ hx hby hml hown hnm hret hlk hZ X0 e0
  refine Go.cast (ef_11 m a t r) ?_
  show Go p e below _ s₁ (mkF m 0 #[.val (.ref a), .val (.int t), .val (.int r)] [])
  refine Go.aloadN X0 hx (hb hby d11_0) rfl rfl rfl ?_
  refine Go.getF X0 hx hZ hown (host := "") (Or.inl (wd 47 rfl)) Via.refl e0 Fx (hb hby d11_1) rfl ?_
  intro T1 X1 e1
  refine Go.iloadN X1 hx (hb hby d11_4) rfl rfl  ?_
  refine Go.iloadN X1 hx (hb hby d11_5) rfl rfl  ?_
  refine Go.pureS X1 hx hZ hown (wd 81 rfl) (wd 82 rfl) (wd 2 rfl) (wd 83 rfl) (by decide) [(.int t), (.int r)] [(.ref x)] (rmE l Z a0 hw t r h0) e1 rfl (by rw [hml]; rfl) pd_5 rfl (hb hby d11_6) (Nat.le_of_ble_eq_true rfl) (Nat.le_of_ble_eq_true rfl) (Nat.le_of_ble_eq_true rfl) (Nat.le_of_ble_eq_true rfl) ?_
  intro T2 X2 e2
  refine Go.callV X2 hx hZ hown (wd 59 rfl) (wd 31 rfl) (notFace_of_selects (args := #[]) (mvT hZ (wd 33 rfl))) (wd 33 rfl) (wd 32 rfl) (wd 18 rfl) (wd 34 rfl) (by decide) [(.long ((((t).toInt64) <<< ((32 : Int32) &&& 0x3f).toInt64) ||| (((r).toInt64) &&& (4294967295 : Int64))))] [] Ex (lpA2 l Z a0 hw x b g kb kp ((((t).toInt64) <<< ((32 : Int32) &&& 0x3f).toInt64) ||| (((r).toInt64) &&& (4294967295 : Int64))) v0 v1 v2 v3 v4 v5 h0 O0 Ex gx gg nxb nxg nbg Fp Fs Vb Vg) e2 rfl (by rw [hml]; rfl) pd_1 rfl (hb hby d11_9) (Nat.le_of_ble_eq_true rfl) (Nat.le_of_ble_eq_true rfl) (Nat.le_of_ble_eq_true rfl) (Nat.le_of_ble_eq_true rfl) ?_
  rintro vv3 T3 L3 X3 Q3
  obtain ⟨rfl, N3, K3, E3, Fp3, Fs3, Vb3, Vg3⟩ := Q3
  have M4 := Fr.app (Fr.nil _) N3
  have O5 := O0.keep K3 (allS gx (allS gg (all0)))
  have K6 := Keep.trans (Keep.refl h0 [x, g]) K3 (allS (Or.inl (List.mem_of_getElem? (i := 0) rfl)) (allS (Or.inl (List.mem_of_getElem? (i := 1) rfl)) (all0)))
  have F7 := Fx.keep K3 (ninS nax (ninS nag (nin0)))
  have E8 := Ex.keep K3
  have V9 := Vb.keep K3 (ninS (Ne.symm nxb) (ninS nbg (nin0)))
  exact Go.retV X3 hx hret hlk (hb hby d11_12) rfl ⟨rfl, M4, K6, E3, Fp3, Fs3, V9, Vg3⟩ (Nat.le_of_ble_eq_true rfl) (Nat.le_of_ble_eq_true rfl)
set_option maxRecDepth 65536 in
set_option maxHeartbeats 40000000 in
theorem rm0 (l : Launch) (Z : State) (a0 : Array Value) (hw : ∀ d ∈ tables_1, d.before a0 Z = true) (x0 : Int32) (x1 : Int32) (x2 : Int32) (x3 : Int32) (x4 : Int32) (x5 : Int32)  : Ctr l Z x code maxLocals ret room_1 #[(.int x0), (.int x1), (.int x2), (.int x3), (.int x4), (.int x5)] Z.heap (fun v h L => v = some (.int 1) ∧ Fr Z.heap.size L) := by
  refine Ctr.of (plainFor_of_name pn_0) ?_
  have wd : ∀ {d : Jvm.Cond} (i : Nat), tables_1[i]? = some d → d.before a0 Z = true := fun i q => hw _ (List.mem_of_getElem? q)
  intro p e s m below meth c s₁ hx hby hml hown hnm hret hlk hZ X0 e0
  have hown : s.vm.findClass "com/example/diktyo/diktyo/analysis/ReachabilityGraphIsDeadPinLaw" = some m.cls := hown
  have O0 := Old.start Z
  refine Go.cast (ef_0 m x0 x1 x2 x3 x4 x5) ?_
  show Go p e below _ s₁ (mkF m 0 #[.val (.int x0), .val (.int x1), .val (.int x2), .val (.int x3), .val (.int x4), .val (.int x5), .unset, .unset, .unset, .unset, .unset, .unset] [])
  refine Go.iloadN X0 hx (hb hby at_0) rfl rfl  ?_
  refine Go.iconst X0 hx (hb hby at_1) rfl (1 : Int32) rfl ?_
  refine Go.iand X0 hx (hb hby at_2) rfl ?_
  refine Go.joinI X0 e0 ((if (x0 &&& (1 : Int32)) = 0 then 0 else 1 : Int32)) (fun z => mkF m 11 #[.val (.int x0), .val (.int x1), .val (.int x2), .val (.int x3), .val (.int x4), .val (.int x5), .unset, .unset, .unset, .unset, .unset, .unset] [(.int z)]) ?_ ?_
  · intro J1
    by_cases hc2 : (x0 &&& (1 : Int32)) = (0 : Int32)
    · refine Go.ifYes X0 hx (hb hby at_3) rfl 10 ((if0 _ _).trans (teq hc2).1) (by decide) (by decide) ?_
      refine Go.iconst X0 hx (hb hby at_10) rfl (0 : Int32) rfl ?_
      exact J1 _ _ (if_pos hc2).symm X0 e0
    · refine Go.ifNo X0 hx (hb hby at_3) rfl ((if0 _ _).trans (feq hc2).1) ?_
      refine Go.iconst X0 hx (hb hby at_6) rfl (1 : Int32) rfl ?_
      refine Go.goto X0 hx (hb hby at_7) rfl 11 (by decide) (by decide) ?_
      exact J1 _ _ (if_neg hc2).symm X0 e0
  intro T3 X3 e3
  show Go p e below _ T3 (mkF m 11 #[.val (.int x0), .val (.int x1), .val (.int x2), .val (.int x3), .val (.int x4), .val (.int x5), .unset, .unset, .unset, .unset, .unset, .unset] [(.int (if (x0 &&& (1 : Int32)) = 0 then 0 else 1 : Int32))])
  refine Go.istore X3 hx (hb hby at_11) rfl  #[.val (.int x0), .val (.int x1), .val (.int x2), .val (.int x3), .val (.int x4), .val (.int x5), .val (.int (if (x0 &&& (1 : Int32)) = 0 then 0 else 1 : Int32)), .unset, .unset, .unset, .unset, .unset] rfl ?_
  refine Go.iloadN X3 hx (hb hby at_13) rfl rfl  ?_
  refine Go.iconst X3 hx (hb hby at_14) rfl (2 : Int32) rfl ?_
  refine Go.iand X3 hx (hb hby at_15) rfl ?_
  refine Go.joinI X3 e3 ((if (x0 &&& (2 : Int32)) = 0 then 0 else 1 : Int32)) (fun z => mkF m 24 #[.val (.int x0), .val (.int x1), .val (.int x2), .val (.int x3), .val (.int x4), .val (.int x5), .val (.int (if (x0 &&& (1 : Int32)) = 0 then 0 else 1 : Int32)), .unset, .unset, .unset, .unset, .unset] [(.int z)]) ?_ ?_
  · intro J4
    by_cases hc5 : (x0 &&& (2 : Int32)) = (0 : Int32)
    · refine Go.ifYes X3 hx (hb hby at_16) rfl 23 ((if0 _ _).trans (teq hc5).1) (by decide) (by decide) ?_
      refine Go.iconst X3 hx (hb hby at_23) rfl (0 : Int32) rfl ?_
      exact J4 _ _ (if_pos hc5).symm X3 e3
    · refine Go.ifNo X3 hx (hb hby at_16) rfl ((if0 _ _).trans (feq hc5).1) ?_
      refine Go.iconst X3 hx (hb hby at_19) rfl (1 : Int32) rfl ?_
      refine Go.goto X3 hx (hb hby at_20) rfl 24 (by decide) (by decide) ?_
      exact J4 _ _ (if_neg hc5).symm X3 e3
  intro T6 X6 e6
  show Go p e below _ T6 (mkF m 24 #[.val (.int x0), .val (.int x1), .val (.int x2), .val (.int x3), .val (.int x4), .val (.int x5), .val (.int (if (x0 &&& (1 : Int32)) = 0 then 0 else 1 : Int32)), .unset, .unset, .unset, .unset, .unset] [(.int (if (x0 &&& (2 : Int32)) = 0 then 0 else 1 : Int32))])
  refine Go.istore X6 hx (hb hby at_24) rfl  #[.val (.int x0), .val (.int x1), .val (.int x2), .val (.int x3), .val (.int x4), .val (.int x5), .val (.int (if (x0 &&& (1 : Int32)) = 0 then 0 else 1 : Int32)), .val (.int (if (x0 &&& (2 : Int32)) = 0 then 0 else 1 : Int32)), .unset, .unset, .unset, .unset] rfl ?_
  refine Go.iloadN X6 hx (hb hby at_26) rfl rfl  ?_
  refine Go.iconst X6 hx (hb hby at_27) rfl (4 : Int32) rfl ?_
  refine Go.iand X6 hx (hb hby at_28) rfl ?_
  refine Go.joinI X6 e6 ((if (x0 &&& (4 : Int32)) = 0 then 0 else 1 : Int32)) (fun z => mkF m 37 #[.val (.int x0), .val (.int x1), .val (.int x2), .val (.int x3), .val (.int x4), .val (.int x5), .val (.int (if (x0 &&& (1 : Int32)) = 0 then 0 else 1 : Int32)), .val (.int (if (x0 &&& (2 : Int32)) = 0 then 0 else 1 : Int32)), .unset, .unset, .unset, .unset] [(.int z)]) ?_ ?_
  · intro J7
    by_cases hc8 : (x0 &&& (4 : Int32)) = (0 : Int32)
    · refine Go.ifYes X6 hx (hb hby at_29) rfl 36 ((if0 _ _).trans (teq hc8).1) (by decide) (by decide) ?_
      refine Go.iconst X6 hx (hb hby at_36) rfl (0 : Int32) rfl ?_
      exact J7 _ _ (if_pos hc8).symm X6 e6
    · refine Go.ifNo X6 hx (hb hby at_29) rfl ((if0 _ _).trans (feq hc8).1) ?_
      refine Go.iconst X6 hx (hb hby at_32) rfl (1 : Int32) rfl ?_
      refine Go.goto X6 hx (hb hby at_33) rfl 37 (by decide) (by decide) ?_
      exact J7 _ _ (if_neg hc8).symm X6 e6
  intro T9 X9 e9
  show Go p e below _ T9 (mkF m 37 #[.val (.int x0), .val (.int x1), .val (.int x2), .val (.int x3), .val (.int x4), .val (.int x5), .val (.int (if (x0 &&& (1 : Int32)) = 0 then 0 else 1 : Int32)), .val (.int (if (x0 &&& (2 : Int32)) = 0 then 0 else 1 : Int32)), .unset, .unset, .unset, .unset] [(.int (if (x0 &&& (4 : Int32)) = 0 then 0 else 1 : Int32))])
  refine Go.istore X9 hx (hb hby at_37) rfl  #[.val (.int x0), .val (.int x1), .val (.int x2), .val (.int x3), .val (.int x4), .val (.int x5), .val (.int (if (x0 &&& (1 : Int32)) = 0 then 0 else 1 : Int32)), .val (.int (if (x0 &&& (2 : Int32)) = 0 then 0 else 1 : Int32)), .val (.int (if (x0 &&& (4 : Int32)) = 0 then 0 else 1 : Int32)), .unset, .unset, .unset] rfl ?_
  refine Go.newO X9 hx hZ hown (wd 0 rfl) (wd 1 rfl) (wd 2 rfl) e9 (hb hby at_39) rfl (Nat.le_of_ble_eq_true rfl) (Nat.le_of_ble_eq_true rfl) ?_
  intro T10 h10 b10 g10 X10 e10 E10 A10 D10
  have F11 : Fld Z h10 b10 "com/example/diktyo/diktyo/analysis/ReachabilityGraph" "tree" "Lcom/example/diktyo/diktyo/analysis/SpanningTree;" .null := D10 (Or.inr (wd 42 rfl)) (ty := (.object "com/example/diktyo/diktyo/analysis/SpanningTree")) (by decide)
  have F12 : Fld Z h10 b10 "com/example/diktyo/diktyo/analysis/ReachabilityGraph" "firstEdges" "Lcom/example/diktyo/diktyo/analysis/LongPages;" .null := D10 (Or.inr (wd 46 rfl)) (ty := (.object "com/example/diktyo/diktyo/analysis/LongPages")) (by decide)
  have F13 : Fld Z h10 b10 "com/example/diktyo/diktyo/analysis/ReachabilityGraph" "edges" "Lcom/example/diktyo/diktyo/analysis/LongPages;" .null := D10 (Or.inr (wd 48 rfl)) (ty := (.object "com/example/diktyo/diktyo/analysis/LongPages")) (by decide)
  have q10 : Z.heap.size ≤ b10 := Nat.le_trans O0.2.1 (Nat.le_of_eq g10.symm)
  have O14 := O0.ext E10
  refine Go.dup X10 hx (hb hby at_42) rfl rfl ?_
  refine Go.callI X10 hx hZ rfl hown (wd 3 rfl) (wd 4 rfl) (wd 2 rfl) (wd 5 rfl) (by decide) [] [(.ref b10)] (rmG l Z a0 hw b10 h10 O14 A10 q10 F11 F12 F13) e10 rfl (by rw [hml]; rfl) pd_0 rfl (hb hby at_43) (Nat.le_of_ble_eq_true rfl) (Nat.le_of_ble_eq_true rfl) (Nat.le_of_ble_eq_true rfl) (Nat.le_of_ble_eq_true rfl) ?_
  rintro vv15 T15 L15 X15 Q15
  obtain ⟨rfl, N15, K15, E15, x15a, b15a, k15a, x15b, b15b, k15b, s1_15, s2_15, s3_15, s4_15, n1_15, n2_15, n3_15, n4_15, n5_15, n6_15, Ff15, Fe15, Ea15, Fpa15, Fsa15, Vba15, Ova15, Eb15, Fpb15, Fsb15, Vbb15, Ovb15⟩ := Q15
  have M16 := Fr.app (Fr.nil _) N15
  have q_x15a : Z.heap.size ≤ x15a := Nat.le_trans O14.2.1 s1_15
  have ne_b10_x15a : b10 ≠ x15a := Nat.ne_of_lt (Nat.lt_of_lt_of_le A10.lt s1_15)
  have q_b15a : Z.heap.size ≤ b15a := Nat.le_trans O14.2.1 s2_15
  have ne_b10_b15a : b10 ≠ b15a := Nat.ne_of_lt (Nat.lt_of_lt_of_le A10.lt s2_15)
  have q_x15b : Z.heap.size ≤ x15b := Nat.le_trans O14.2.1 s3_15
  have ne_b10_x15b : b10 ≠ x15b := Nat.ne_of_lt (Nat.lt_of_lt_of_le A10.lt s3_15)
  have q_b15b : Z.heap.size ≤ b15b := Nat.le_trans O14.2.1 s4_15
  have ne_b10_b15b : b10 ≠ b15b := Nat.ne_of_lt (Nat.lt_of_lt_of_le A10.lt s4_15)
  have O17 := O14.keep K15 (allS q10 (all0))
  have E18 := A10.keep K15
  refine Go.astore X15 hx (hb hby at_46) rfl rfl #[.val (.int x0), .val (.int x1), .val (.int x2), .val (.int x3), .val (.int x4), .val (.int x5), .val (.int (if (x0 &&& (1 : Int32)) = 0 then 0 else 1 : Int32)), .val (.int (if (x0 &&& (2 : Int32)) = 0 then 0 else 1 : Int32)), .val (.int (if (x0 &&& (4 : Int32)) = 0 then 0 else 1 : Int32)), .val (.ref b10), .unset, .unset] rfl ?_
  refine Go.aload X15 hx (hb hby at_48) rfl rfl rfl ?_
  refine Go.callV X15 hx hZ hown (wd 49 rfl) (wd 50 rfl) (notFace_of_selects (args := #[]) (mvT hZ (wd 52 rfl))) (wd 52 rfl) (wd 51 rfl) (wd 2 rfl) (wd 53 rfl) (by decide) [] [] E15 (rm_startEdges_0 l Z a0 hw b10 x15a b15a k15a x15b (0 : Int64) T15.heap O17 Ff15 Ea15 q_x15a ne_b10_x15a ne_b10_b15a n1_15 Fpa15 Fsa15 q_b15a Vba15 Ova15 Fe15 Eb15 Fsb15 (Ne.symm n2_15) (Ne.symm n4_15)) rfl rfl (by rw [hml]; rfl) pd_0 rfl (hb hby at_50) (Nat.le_of_ble_eq_true rfl) (Nat.le_of_ble_eq_true rfl) (Nat.le_of_ble_eq_true rfl) (Nat.le_of_ble_eq_true rfl) ?_
  rintro vv19 T19 L19 X19 Q19
  obtain ⟨rfl, N19, K19, E19, g19, k19, sz19, Fp19, Fs19, Vb19, Vg19⟩ := Q19
  have M20 := Fr.app M16 N19
  have q19 : Z.heap.size ≤ g19 := Nat.le_trans O17.2.1 sz19
  have ne_b10_g19 : b10 ≠ g19 := Nat.ne_of_lt (Nat.lt_of_lt_of_le E15.lt sz19)
  have ne_x15a_g19 : x15a ≠ g19 := Nat.ne_of_lt (Nat.lt_of_lt_of_le Ea15.lt sz19)
  have ne_b15a_g19 : b15a ≠ g19 := Nat.ne_of_lt (Nat.lt_of_lt_of_le Vba15.lt sz19)
  have ne_x15b_g19 : x15b ≠ g19 := Nat.ne_of_lt (Nat.lt_of_lt_of_le Eb15.lt sz19)
  have ne_b15b_g19 : b15b ≠ g19 := Nat.ne_of_lt (Nat.lt_of_lt_of_le Vbb15.lt sz19)
  have O21 := O17.keep K19 (allS q_x15a (allS q_b15a (all0)))
  have E22 := E15.keep K19
  have F23 := Ff15.keep K19 (ninS ne_b10_x15a (ninS ne_b10_b15a (nin0)))
  have F24 := Fe15.keep K19 (ninS ne_b10_x15a (ninS ne_b10_b15a (nin0)))
  have E25 := Ea15.keep K19
  have E26 := Eb15.keep K19
  have F27 := Fpb15.keep K19 (ninS (Ne.symm n2_15) (ninS (Ne.symm n4_15) (nin0)))
  have F28 := Fsb15.keep K19 (ninS (Ne.symm n2_15) (ninS (Ne.symm n4_15) (nin0)))
  have V29 := Vbb15.keep K19 (ninS (Ne.symm n3_15) (ninS (Ne.symm n5_15) (nin0)))
  refine Go.iload X19 hx (hb hby at_53) rfl rfl  ?_
  by_cases hc30 : (if (x0 &&& (1 : Int32)) = 0 then 0 else 1 : Int32) = (0 : Int32)
  · refine Go.ifYes X19 hx (hb hby at_55) rfl 65 ((if0 _ _).trans (teq hc30).1) (by decide) (by decide) ?_
    refine Go.aload X19 hx (hb hby at_65) rfl rfl rfl ?_
    refine Go.callV X19 hx hZ hown (wd 49 rfl) (wd 50 rfl) (notFace_of_selects (args := #[]) (mvT hZ (wd 52 rfl))) (wd 52 rfl) (wd 51 rfl) (wd 2 rfl) (wd 53 rfl) (by decide) [] [] E22 (rm_startEdges_1 l Z a0 hw b10 x15a b15a k15a g19 k19 (0 : Int64) (0 : Int64) (0 : Int64) (0 : Int64) (0 : Int64) (0 : Int64) x15b (0 : Int64) T19.heap O21 F23 E19 q_x15a ne_b10_x15a ne_b10_b15a n1_15 Fp19 Fs19 q19 ne_b10_g19 ne_x15a_g19 ne_b15a_g19 Vb19 Vg19 F24 E26 F28 (Ne.symm n2_15) (Ne.symm n4_15) ne_x15b_g19) rfl rfl (by rw [hml]; rfl) pd_0 rfl (hb hby at_67) (Nat.le_of_ble_eq_true rfl) (Nat.le_of_ble_eq_true rfl) (Nat.le_of_ble_eq_true rfl) (Nat.le_of_ble_eq_true rfl) ?_
    rintro vv31 T31 L31 X31 Q31
    obtain ⟨rfl, N31, K31, E31, Fp31, Fs31, Vb31, Vg31⟩ := Q31
    have M32 := Fr.app M20 N31
    have O33 := O21.keep K31 (allS q_x15a (allS q19 (all0)))
    have E34 := E22.keep K31
    have F35 := F23.keep K31 (ninS ne_b10_x15a (ninS ne_b10_g19 (nin0)))
    have F36 := F24.keep K31 (ninS ne_b10_x15a (ninS ne_b10_g19 (nin0)))
    have E37 := E19.keep K31
    have E38 := E26.keep K31
    have F39 := F27.keep K31 (ninS (Ne.symm n2_15) (ninS ne_x15b_g19 (nin0)))
    have F40 := F28.keep K31 (ninS (Ne.symm n2_15) (ninS ne_x15b_g19 (nin0)))
    have V41 := V29.keep K31 (ninS (Ne.symm n3_15) (ninS ne_b15b_g19 (nin0)))
    have V42 := Vb19.keep K31 (ninS (Ne.symm n1_15) (ninS ne_b15a_g19 (nin0)))
    refine Go.iload X31 hx (hb hby at_70) rfl rfl  ?_
    by_cases hc43 : (if (x0 &&& (2 : Int32)) = 0 then 0 else 1 : Int32) = (0 : Int32)
    · refine Go.ifYes X31 hx (hb hby at_72) rfl 84 ((if0 _ _).trans (teq hc43).1) (by decide) (by decide) ?_
      refine Go.aload X31 hx (hb hby at_84) rfl rfl rfl ?_
      refine Go.callV X31 hx hZ hown (wd 49 rfl) (wd 50 rfl) (notFace_of_selects (args := #[]) (mvT hZ (wd 52 rfl))) (wd 52 rfl) (wd 51 rfl) (wd 2 rfl) (wd 53 rfl) (by decide) [] [] E34 (rm_startEdges_2 l Z a0 hw b10 x15a b15a k15a g19 k19 (0 : Int64) (0 : Int64) (0 : Int64) (0 : Int64) (0 : Int64) (0 : Int64) x15b (0 : Int64) T31.heap O33 F35 E31 q_x15a ne_b10_x15a ne_b10_b15a n1_15 Fp31 Fs31 q19 ne_b10_g19 ne_x15a_g19 ne_b15a_g19 V42 Vg31 F36 E38 F40 (Ne.symm n2_15) (Ne.symm n4_15) ne_x15b_g19) rfl rfl (by rw [hml]; rfl) pd_0 rfl (hb hby at_86) (Nat.le_of_ble_eq_true rfl) (Nat.le_of_ble_eq_true rfl) (Nat.le_of_ble_eq_true rfl) (Nat.le_of_ble_eq_true rfl) ?_
      rintro vv44 T44 L44 X44 Q44
      obtain ⟨rfl, N44, K44, E44, Fp44, Fs44, Vb44, Vg44⟩ := Q44
      have M45 := Fr.app M32 N44
      have O46 := O33.keep K44 (allS q_x15a (allS q19 (all0)))
      have E47 := E34.keep K44
      have F48 := F35.keep K44 (ninS ne_b10_x15a (ninS ne_b10_g19 (nin0)))
      have F49 := F36.keep K44 (ninS ne_b10_x15a (ninS ne_b10_g19 (nin0)))
      have E50 := E31.keep K44
      have E51 := E38.keep K44
      have F52 := F39.keep K44 (ninS (Ne.symm n2_15) (ninS ne_x15b_g19 (nin0)))
      have F53 := F40.keep K44 (ninS (Ne.symm n2_15) (ninS ne_x15b_g19 (nin0)))
      have V54 := V41.keep K44 (ninS (Ne.symm n3_15) (ninS ne_b15b_g19 (nin0)))
      have V55 := V42.keep K44 (ninS (Ne.symm n1_15) (ninS ne_b15a_g19 (nin0)))
      refine Go.iload X44 hx (hb hby at_89) rfl rfl  ?_
      by_cases hc56 : (if (x0 &&& (4 : Int32)) = 0 then 0 else 1 : Int32) = (0 : Int32)
      · refine Go.ifYes X44 hx (hb hby at_91) rfl 102 ((if0 _ _).trans (teq hc56).1) (by decide) (by decide) ?_
        refine Go.aload X44 hx (hb hby at_102) rfl rfl rfl ?_
        refine Go.callV X44 hx hZ hown (wd 60 rfl) (wd 61 rfl) (notFace_of_selects (args := #[]) (mvT hZ (wd 63 rfl))) (wd 63 rfl) (wd 62 rfl) (wd 2 rfl) (wd 64 rfl) (by decide) [] [] E47 (rm_endEdges_3 l Z a0 hw b10 x15a b15a k15a g19 k19 (0 : Int64) (0 : Int64) (0 : Int64) (0 : Int64) (0 : Int64) (0 : Int64) x15b (0 : Int64) T44.heap O46 F48 E44 q_x15a ne_b10_x15a ne_b10_b15a n1_15 Fp44 Fs44 q19 ne_b10_g19 ne_x15a_g19 ne_b15a_g19 V55 Vg44 F49 E51 F53 (Ne.symm n2_15) (Ne.symm n4_15) ne_x15b_g19) rfl rfl (by rw [hml]; rfl) pd_0 rfl (hb hby at_104) (Nat.le_of_ble_eq_true rfl) (Nat.le_of_ble_eq_true rfl) (Nat.le_of_ble_eq_true rfl) (Nat.le_of_ble_eq_true rfl) ?_
        rintro vv57 T57 L57 X57 Q57
        obtain ⟨rfl, N57, K57, E57, Fp57, Fs57, Vb57, Vg57⟩ := Q57
        have M58 := Fr.app M45 N57
        have O59 := O46.keep K57 (allS q_x15a (allS q19 (all0)))
        have E60 := E47.keep K57
        have F61 := F48.keep K57 (ninS ne_b10_x15a (ninS ne_b10_g19 (nin0)))
        have F62 := F49.keep K57 (ninS ne_b10_x15a (ninS ne_b10_g19 (nin0)))
        have E63 := E44.keep K57
        have E64 := E51.keep K57
        have F65 := F52.keep K57 (ninS (Ne.symm n2_15) (ninS ne_x15b_g19 (nin0)))
        have F66 := F53.keep K57 (ninS (Ne.symm n2_15) (ninS ne_x15b_g19 (nin0)))
        have V67 := V54.keep K57 (ninS (Ne.symm n3_15) (ninS ne_b15b_g19 (nin0)))
        have V68 := V55.keep K57 (ninS (Ne.symm n1_15) (ninS ne_b15a_g19 (nin0)))
        refine Go.iloadN X57 hx (hb hby at_107) rfl rfl  ?_
        refine Go.ldc X57 hx hZ hown (wd 65 rfl) (hb hby at_108) rfl ?_
        refine Go.iand X57 hx (hb hby at_110) rfl ?_
        refine Go.iconst X57 hx (hb hby at_111) rfl (3 : Int32) rfl ?_
        refine Go.irem X57 hx (hb hby at_112) rfl (by decide) ?_
        refine Go.istore X57 hx (hb hby at_113) rfl  #[.val (.int x0), .val (.int x1), .val (.int x2), .val (.int x3), .val (.int x4), .val (.int x5), .val (.int (if (x0 &&& (1 : Int32)) = 0 then 0 else 1 : Int32)), .val (.int (if (x0 &&& (2 : Int32)) = 0 then 0 else 1 : Int32)), .val (.int (if (x0 &&& (4 : Int32)) = 0 then 0 else 1 : Int32)), .val (.ref b10), .val (.int ((x1 &&& (2147483647 : Int32)) % (3 : Int32))), .unset] rfl ?_
        rcases own_rem3 x1 with hk | hk | hk
        · rw [hk]
          refine Go.iload X57 hx (hb hby at_115) rfl rfl  ?_
          refine Go.ifNo X57 hx (hb hby at_117) rfl ((if0 _ _).trans (teq (by decide : (0 : Int32) = (0 : Int32))).2) ?_
          refine Go.iload X57 hx (hb hby at_120) rfl rfl  ?_
          refine Go.ifNo X57 hx (hb hby at_122) rfl ((if0 _ _).trans (teq hc30).2) ?_
          refine Go.iconst X57 hx (hb hby at_125) rfl (1 : Int32) rfl ?_
          refine Go.goto X57 hx (hb hby at_126) rfl 162 (by decide) (by decide) ?_
          refine Go.istore X57 hx (hb hby at_162) rfl  #[.val (.int x0), .val (.int x1), .val (.int x2), .val (.int x3), .val (.int x4), .val (.int x5), .val (.int (if (x0 &&& (1 : Int32)) = 0 then 0 else 1 : Int32)), .val (.int (if (x0 &&& (2 : Int32)) = 0 then 0 else 1 : Int32)), .val (.int (if (x0 &&& (4 : Int32)) = 0 then 0 else 1 : Int32)), .val (.ref b10), .val (.int (0 : Int32)), .val (.int (1 : Int32))] rfl ?_
          refine Go.aload X57 hx (hb hby at_164) rfl rfl rfl ?_
          refine Go.iload X57 hx (hb hby at_166) rfl rfl  ?_
          refine Go.pureV X57 hx hZ hown (wd 66 rfl) (wd 67 rfl) (notFace_of_selects (args := #[]) (mvT hZ (wd 69 rfl))) (wd 69 rfl) (wd 68 rfl) (wd 2 rfl) (wd 70 rfl) (by decide) [(.int (0 : Int32))] [] E60 (rmD0 l Z a0 hw b10 x15a b15a g19 k15a k19 (0 : Int64) (0 : Int64) (0 : Int64) (0 : Int64) (0 : Int64) (0 : Int64) T57.heap F61 E57 Fp57 V68 Vg57) rfl rfl (by rw [hml]; rfl) pd_4 rfl (hb hby at_168) (Nat.le_of_ble_eq_true rfl) (Nat.le_of_ble_eq_true rfl) (Nat.le_of_ble_eq_true rfl) (Nat.le_of_ble_eq_true rfl) ?_
          intro T69 X69 e69
          show Go p e below _ T69 (mkF m 171 #[.val (.int x0), .val (.int x1), .val (.int x2), .val (.int x3), .val (.int x4), .val (.int x5), .val (.int (if (x0 &&& (1 : Int32)) = 0 then 0 else 1 : Int32)), .val (.int (if (x0 &&& (2 : Int32)) = 0 then 0 else 1 : Int32)), .val (.int (if (x0 &&& (4 : Int32)) = 0 then 0 else 1 : Int32)), .val (.ref b10), .val (.int (0 : Int32)), .val (.int (1 : Int32))] [(.int (if (0 : Int64) = (0 : Int64) then 1 else 0 : Int32))])
          rw [show (if (0 : Int64) = (0 : Int64) then 1 else 0 : Int32) = (1 : Int32) from by decide]
          show Go p e below _ T69 (mkF m 171 #[.val (.int x0), .val (.int x1), .val (.int x2), .val (.int x3), .val (.int x4), .val (.int x5), .val (.int (if (x0 &&& (1 : Int32)) = 0 then 0 else 1 : Int32)), .val (.int (if (x0 &&& (2 : Int32)) = 0 then 0 else 1 : Int32)), .val (.int (if (x0 &&& (4 : Int32)) = 0 then 0 else 1 : Int32)), .val (.ref b10), .val (.int (0 : Int32)), .val (.int (1 : Int32))] [(.int (1 : Int32))])
          refine Go.iload X69 hx (hb hby at_171) rfl rfl  ?_
          refine Go.icmpNo X69 hx (hb hby at_173) rfl (teq (by decide : (1 : Int32) = (1 : Int32))).2 ?_
          refine Go.iconst X69 hx (hb hby at_176) rfl (1 : Int32) rfl ?_
          refine Go.goto X69 hx (hb hby at_177) rfl 181 (by decide) (by decide) ?_
          exact Go.retZ X69 hx (z' := (1 : Int32)) hret hlk (hb hby at_181) rfl (by decide) ⟨by first | rfl | simp [hc30, hc43, hc56], M58⟩ (Nat.le_of_ble_eq_true rfl) (Nat.le_of_ble_eq_true rfl)
        · rw [hk]
          refine Go.iload X57 hx (hb hby at_115) rfl rfl  ?_
          refine Go.ifYes X57 hx (hb hby at_117) rfl 133 ((if0 _ _).trans (feq (by decide : ¬ ((1 : Int32) = (0 : Int32)))).2) (by decide) (by decide) ?_
          refine Go.iload X57 hx (hb hby at_133) rfl rfl  ?_
          refine Go.iconst X57 hx (hb hby at_135) rfl (1 : Int32) rfl ?_
          refine Go.icmpNo X57 hx (hb hby at_136) rfl (teq (by decide : (1 : Int32) = (1 : Int32))).2 ?_
          refine Go.iload X57 hx (hb hby at_139) rfl rfl  ?_
          refine Go.ifNo X57 hx (hb hby at_141) rfl ((if0 _ _).trans (teq hc43).2) ?_
          refine Go.iconst X57 hx (hb hby at_144) rfl (1 : Int32) rfl ?_
          refine Go.goto X57 hx (hb hby at_145) rfl 162 (by decide) (by decide) ?_
          refine Go.istore X57 hx (hb hby at_162) rfl  #[.val (.int x0), .val (.int x1), .val (.int x2), .val (.int x3), .val (.int x4), .val (.int x5), .val (.int (if (x0 &&& (1 : Int32)) = 0 then 0 else 1 : Int32)), .val (.int (if (x0 &&& (2 : Int32)) = 0 then 0 else 1 : Int32)), .val (.int (if (x0 &&& (4 : Int32)) = 0 then 0 else 1 : Int32)), .val (.ref b10), .val (.int (1 : Int32)), .val (.int (1 : Int32))] rfl ?_
          refine Go.aload X57 hx (hb hby at_164) rfl rfl rfl ?_
          refine Go.iload X57 hx (hb hby at_166) rfl rfl  ?_
          refine Go.pureV X57 hx hZ hown (wd 66 rfl) (wd 67 rfl) (notFace_of_selects (args := #[]) (mvT hZ (wd 69 rfl))) (wd 69 rfl) (wd 68 rfl) (wd 2 rfl) (wd 70 rfl) (by decide) [(.int (1 : Int32))] [] E60 (rmD1 l Z a0 hw b10 x15a b15a g19 k15a k19 (0 : Int64) (0 : Int64) (0 : Int64) (0 : Int64) (0 : Int64) (0 : Int64) T57.heap F61 E57 Fp57 V68 Vg57) rfl rfl (by rw [hml]; rfl) pd_4 rfl (hb hby at_168) (Nat.le_of_ble_eq_true rfl) (Nat.le_of_ble_eq_true rfl) (Nat.le_of_ble_eq_true rfl) (Nat.le_of_ble_eq_true rfl) ?_
          intro T70 X70 e70
          show Go p e below _ T70 (mkF m 171 #[.val (.int x0), .val (.int x1), .val (.int x2), .val (.int x3), .val (.int x4), .val (.int x5), .val (.int (if (x0 &&& (1 : Int32)) = 0 then 0 else 1 : Int32)), .val (.int (if (x0 &&& (2 : Int32)) = 0 then 0 else 1 : Int32)), .val (.int (if (x0 &&& (4 : Int32)) = 0 then 0 else 1 : Int32)), .val (.ref b10), .val (.int (1 : Int32)), .val (.int (1 : Int32))] [(.int (if (0 : Int64) = (0 : Int64) then 1 else 0 : Int32))])
          rw [show (if (0 : Int64) = (0 : Int64) then 1 else 0 : Int32) = (1 : Int32) from by decide]
          show Go p e below _ T70 (mkF m 171 #[.val (.int x0), .val (.int x1), .val (.int x2), .val (.int x3), .val (.int x4), .val (.int x5), .val (.int (if (x0 &&& (1 : Int32)) = 0 then 0 else 1 : Int32)), .val (.int (if (x0 &&& (2 : Int32)) = 0 then 0 else 1 : Int32)), .val (.int (if (x0 &&& (4 : Int32)) = 0 then 0 else 1 : Int32)), .val (.ref b10), .val (.int (1 : Int32)), .val (.int (1 : Int32))] [(.int (1 : Int32))])
          refine Go.iload X70 hx (hb hby at_171) rfl rfl  ?_
          refine Go.icmpNo X70 hx (hb hby at_173) rfl (teq (by decide : (1 : Int32) = (1 : Int32))).2 ?_
          refine Go.iconst X70 hx (hb hby at_176) rfl (1 : Int32) rfl ?_
          refine Go.goto X70 hx (hb hby at_177) rfl 181 (by decide) (by decide) ?_
          exact Go.retZ X70 hx (z' := (1 : Int32)) hret hlk (hb hby at_181) rfl (by decide) ⟨by first | rfl | simp [hc30, hc43, hc56], M58⟩ (Nat.le_of_ble_eq_true rfl) (Nat.le_of_ble_eq_true rfl)
        · rw [hk]
          refine Go.iload X57 hx (hb hby at_115) rfl rfl  ?_
          refine Go.ifYes X57 hx (hb hby at_117) rfl 133 ((if0 _ _).trans (feq (by decide : ¬ ((2 : Int32) = (0 : Int32)))).2) (by decide) (by decide) ?_
          refine Go.iload X57 hx (hb hby at_133) rfl rfl  ?_
          refine Go.iconst X57 hx (hb hby at_135) rfl (1 : Int32) rfl ?_
          refine Go.icmpYes X57 hx (hb hby at_136) rfl 152 (feq (by decide : ¬ ((2 : Int32) = (1 : Int32)))).2 (by decide) (by decide) ?_
          refine Go.iload X57 hx (hb hby at_152) rfl rfl  ?_
          refine Go.ifNo X57 hx (hb hby at_154) rfl ((if0 _ _).trans (teq hc56).2) ?_
          refine Go.iconst X57 hx (hb hby at_157) rfl (1 : Int32) rfl ?_
          refine Go.goto X57 hx (hb hby at_158) rfl 162 (by decide) (by decide) ?_
          refine Go.istore X57 hx (hb hby at_162) rfl  #[.val (.int x0), .val (.int x1), .val (.int x2), .val (.int x3), .val (.int x4), .val (.int x5), .val (.int (if (x0 &&& (1 : Int32)) = 0 then 0 else 1 : Int32)), .val (.int (if (x0 &&& (2 : Int32)) = 0 then 0 else 1 : Int32)), .val (.int (if (x0 &&& (4 : Int32)) = 0 then 0 else 1 : Int32)), .val (.ref b10), .val (.int (2 : Int32)), .val (.int (1 : Int32))] rfl ?_
          refine Go.aload X57 hx (hb hby at_164) rfl rfl rfl ?_
          refine Go.iload X57 hx (hb hby at_166) rfl rfl  ?_
          refine Go.pureV X57 hx hZ hown (wd 66 rfl) (wd 67 rfl) (notFace_of_selects (args := #[]) (mvT hZ (wd 69 rfl))) (wd 69 rfl) (wd 68 rfl) (wd 2 rfl) (wd 70 rfl) (by decide) [(.int (2 : Int32))] [] E60 (rmD2 l Z a0 hw b10 x15a b15a g19 k15a k19 (0 : Int64) (0 : Int64) (0 : Int64) (0 : Int64) (0 : Int64) (0 : Int64) T57.heap F61 E57 Fp57 V68 Vg57) rfl rfl (by rw [hml]; rfl) pd_4 rfl (hb hby at_168) (Nat.le_of_ble_eq_true rfl) (Nat.le_of_ble_eq_true rfl) (Nat.le_of_ble_eq_true rfl) (Nat.le_of_ble_eq_true rfl) ?_
          intro T71 X71 e71
          show Go p e below _ T71 (mkF m 171 #[.val (.int x0), .val (.int x1), .val (.int x2), .val (.int x3), .val (.int x4), .val (.int x5), .val (.int (if (x0 &&& (1 : Int32)) = 0 then 0 else 1 : Int32)), .val (.int (if (x0 &&& (2 : Int32)) = 0 then 0 else 1 : Int32)), .val (.int (if (x0 &&& (4 : Int32)) = 0 then 0 else 1 : Int32)), .val (.ref b10), .val (.int (2 : Int32)), .val (.int (1 : Int32))] [(.int (if (0 : Int64) = (0 : Int64) then 1 else 0 : Int32))])
          rw [show (if (0 : Int64) = (0 : Int64) then 1 else 0 : Int32) = (1 : Int32) from by decide]
          show Go p e below _ T71 (mkF m 171 #[.val (.int x0), .val (.int x1), .val (.int x2), .val (.int x3), .val (.int x4), .val (.int x5), .val (.int (if (x0 &&& (1 : Int32)) = 0 then 0 else 1 : Int32)), .val (.int (if (x0 &&& (2 : Int32)) = 0 then 0 else 1 : Int32)), .val (.int (if (x0 &&& (4 : Int32)) = 0 then 0 else 1 : Int32)), .val (.ref b10), .val (.int (2 : Int32)), .val (.int (1 : Int32))] [(.int (1 : Int32))])
          refine Go.iload X71 hx (hb hby at_171) rfl rfl  ?_
          refine Go.icmpNo X71 hx (hb hby at_173) rfl (teq (by decide : (1 : Int32) = (1 : Int32))).2 ?_
          refine Go.iconst X71 hx (hb hby at_176) rfl (1 : Int32) rfl ?_
          refine Go.goto X71 hx (hb hby at_177) rfl 181 (by decide) (by decide) ?_
          exact Go.retZ X71 hx (z' := (1 : Int32)) hret hlk (hb hby at_181) rfl (by decide) ⟨by first | rfl | simp [hc30, hc43, hc56], M58⟩ (Nat.le_of_ble_eq_true rfl) (Nat.le_of_ble_eq_true rfl)
      · refine Go.ifNo X44 hx (hb hby at_91) rfl ((if0 _ _).trans (feq hc56).1) ?_
        refine Go.aload X44 hx (hb hby at_94) rfl rfl rfl ?_
        refine Go.iloadN X44 hx (hb hby at_96) rfl rfl  ?_
        refine Go.iload X44 hx (hb hby at_97) rfl rfl  ?_
        refine Go.callV X44 hx hZ hown (wd 76 rfl) (wd 77 rfl) (notFace_of_selects (args := #[]) (mvT hZ (wd 79 rfl))) (wd 79 rfl) (wd 78 rfl) (wd 2 rfl) (wd 80 rfl) (by decide) [(.int x3), (.int x4)] [] E47 (rm_addEdge_0 l Z a0 hw b10 x15b b15b k15b x3 x4 T44.heap O46 F49 E51 q_x15b ne_b10_x15b ne_b10_b15b n6_15 F52 F53 q_b15b V54 Ovb15) rfl rfl (by rw [hml]; rfl) pd_6 rfl (hb hby at_99) (Nat.le_of_ble_eq_true rfl) (Nat.le_of_ble_eq_true rfl) (Nat.le_of_ble_eq_true rfl) (Nat.le_of_ble_eq_true rfl) ?_
        rintro vv72 T72 L72 X72 Q72
        obtain ⟨rfl, N72, K72, E72, g72, k72, sz72, Fp72, Fs72, Vb72, Vg72⟩ := Q72
        have M73 := Fr.app M45 N72
        have q72 : Z.heap.size ≤ g72 := Nat.le_trans O46.2.1 sz72
        have ne_b10_g72 : b10 ≠ g72 := Nat.ne_of_lt (Nat.lt_of_lt_of_le E47.lt sz72)
        have ne_x15a_g72 : x15a ≠ g72 := Nat.ne_of_lt (Nat.lt_of_lt_of_le E44.lt sz72)
        have ne_x15b_g72 : x15b ≠ g72 := Nat.ne_of_lt (Nat.lt_of_lt_of_le E51.lt sz72)
        have ne_b15b_g72 : b15b ≠ g72 := Nat.ne_of_lt (Nat.lt_of_lt_of_le V54.lt sz72)
        have ne_b15a_g72 : b15a ≠ g72 := Nat.ne_of_lt (Nat.lt_of_lt_of_le V55.lt sz72)
        have ne_g19_g72 : g19 ≠ g72 := Nat.ne_of_lt (Nat.lt_of_lt_of_le Vg44.lt sz72)
        have O74 := O46.keep K72 (allS q_x15b (allS q_b15b (all0)))
        have E75 := E47.keep K72
        have F76 := F48.keep K72 (ninS ne_b10_x15b (ninS ne_b10_b15b (nin0)))
        have F77 := F49.keep K72 (ninS ne_b10_x15b (ninS ne_b10_b15b (nin0)))
        have E78 := E44.keep K72
        have E79 := E51.keep K72
        have V80 := V55.keep K72 (ninS n4_15 (ninS n5_15 (nin0)))
        have F81 := Fp44.keep K72 (ninS n2_15 (ninS n3_15 (nin0)))
        have F82 := Fs44.keep K72 (ninS n2_15 (ninS n3_15 (nin0)))
        have V83 := Vg44.keep K72 (ninS (Ne.symm ne_x15b_g19) (ninS (Ne.symm ne_b15b_g19) (nin0)))
        refine Go.aload X72 hx (hb hby at_102) rfl rfl rfl ?_
        refine Go.callV X72 hx hZ hown (wd 60 rfl) (wd 61 rfl) (notFace_of_selects (args := #[]) (mvT hZ (wd 63 rfl))) (wd 63 rfl) (wd 62 rfl) (wd 2 rfl) (wd 64 rfl) (by decide) [] [] E75 (rm_endEdges_3 l Z a0 hw b10 x15a b15a k15a g19 k19 (0 : Int64) (0 : Int64) (0 : Int64) (0 : Int64) (0 : Int64) (0 : Int64) x15b (1 : Int64) T72.heap O74 F76 E78 q_x15a ne_b10_x15a ne_b10_b15a n1_15 F81 F82 q19 ne_b10_g19 ne_x15a_g19 ne_b15a_g19 V80 V83 F77 E72 Fs72 (Ne.symm n2_15) (Ne.symm n4_15) ne_x15b_g19) rfl rfl (by rw [hml]; rfl) pd_0 rfl (hb hby at_104) (Nat.le_of_ble_eq_true rfl) (Nat.le_of_ble_eq_true rfl) (Nat.le_of_ble_eq_true rfl) (Nat.le_of_ble_eq_true rfl) ?_
        rintro vv84 T84 L84 X84 Q84
        obtain ⟨rfl, N84, K84, E84, Fp84, Fs84, Vb84, Vg84⟩ := Q84
        have M85 := Fr.app M73 N84
        have O86 := O74.keep K84 (allS q_x15a (allS q19 (all0)))
        have E87 := E75.keep K84
        have F88 := F76.keep K84 (ninS ne_b10_x15a (ninS ne_b10_g19 (nin0)))
        have F89 := F77.keep K84 (ninS ne_b10_x15a (ninS ne_b10_g19 (nin0)))
        have E90 := E78.keep K84
        have E91 := E72.keep K84
        have V92 := V80.keep K84 (ninS (Ne.symm n1_15) (ninS ne_b15a_g19 (nin0)))
        have F93 := Fp72.keep K84 (ninS (Ne.symm n2_15) (ninS ne_x15b_g19 (nin0)))
        have F94 := Fs72.keep K84 (ninS (Ne.symm n2_15) (ninS ne_x15b_g19 (nin0)))
        have V95 := Vb72.keep K84 (ninS (Ne.symm n3_15) (ninS ne_b15b_g19 (nin0)))
        have V96 := Vg72.keep K84 (ninS (Ne.symm ne_x15a_g72) (ninS (Ne.symm ne_g19_g72) (nin0)))
        refine Go.iloadN X84 hx (hb hby at_107) rfl rfl  ?_
        refine Go.ldc X84 hx hZ hown (wd 65 rfl) (hb hby at_108) rfl ?_
        refine Go.iand X84 hx (hb hby at_110) rfl ?_
        refine Go.iconst X84 hx (hb hby at_111) rfl (3 : Int32) rfl ?_
        refine Go.irem X84 hx (hb hby at_112) rfl (by decide) ?_
        refine Go.istore X84 hx (hb hby at_113) rfl  #[.val (.int x0), .val (.int x1), .val (.int x2), .val (.int x3), .val (.int x4), .val (.int x5), .val (.int (if (x0 &&& (1 : Int32)) = 0 then 0 else 1 : Int32)), .val (.int (if (x0 &&& (2 : Int32)) = 0 then 0 else 1 : Int32)), .val (.int (if (x0 &&& (4 : Int32)) = 0 then 0 else 1 : Int32)), .val (.ref b10), .val (.int ((x1 &&& (2147483647 : Int32)) % (3 : Int32))), .unset] rfl ?_
        rcases own_rem3 x1 with hk | hk | hk
        · rw [hk]
          refine Go.iload X84 hx (hb hby at_115) rfl rfl  ?_
          refine Go.ifNo X84 hx (hb hby at_117) rfl ((if0 _ _).trans (teq (by decide : (0 : Int32) = (0 : Int32))).2) ?_
          refine Go.iload X84 hx (hb hby at_120) rfl rfl  ?_
          refine Go.ifNo X84 hx (hb hby at_122) rfl ((if0 _ _).trans (teq hc30).2) ?_
          refine Go.iconst X84 hx (hb hby at_125) rfl (1 : Int32) rfl ?_
          refine Go.goto X84 hx (hb hby at_126) rfl 162 (by decide) (by decide) ?_
          refine Go.istore X84 hx (hb hby at_162) rfl  #[.val (.int x0), .val (.int x1), .val (.int x2), .val (.int x3), .val (.int x4), .val (.int x5), .val (.int (if (x0 &&& (1 : Int32)) = 0 then 0 else 1 : Int32)), .val (.int (if (x0 &&& (2 : Int32)) = 0 then 0 else 1 : Int32)), .val (.int (if (x0 &&& (4 : Int32)) = 0 then 0 else 1 : Int32)), .val (.ref b10), .val (.int (0 : Int32)), .val (.int (1 : Int32))] rfl ?_
          refine Go.aload X84 hx (hb hby at_164) rfl rfl rfl ?_
          refine Go.iload X84 hx (hb hby at_166) rfl rfl  ?_
          refine Go.pureV X84 hx hZ hown (wd 66 rfl) (wd 67 rfl) (notFace_of_selects (args := #[]) (mvT hZ (wd 69 rfl))) (wd 69 rfl) (wd 68 rfl) (wd 2 rfl) (wd 70 rfl) (by decide) [(.int (0 : Int32))] [] E87 (rmD0 l Z a0 hw b10 x15a b15a g19 k15a k19 (0 : Int64) (0 : Int64) (0 : Int64) (1 : Int64) (0 : Int64) (0 : Int64) T84.heap F88 E84 Fp84 V92 Vg84) rfl rfl (by rw [hml]; rfl) pd_4 rfl (hb hby at_168) (Nat.le_of_ble_eq_true rfl) (Nat.le_of_ble_eq_true rfl) (Nat.le_of_ble_eq_true rfl) (Nat.le_of_ble_eq_true rfl) ?_
          intro T97 X97 e97
          show Go p e below _ T97 (mkF m 171 #[.val (.int x0), .val (.int x1), .val (.int x2), .val (.int x3), .val (.int x4), .val (.int x5), .val (.int (if (x0 &&& (1 : Int32)) = 0 then 0 else 1 : Int32)), .val (.int (if (x0 &&& (2 : Int32)) = 0 then 0 else 1 : Int32)), .val (.int (if (x0 &&& (4 : Int32)) = 0 then 0 else 1 : Int32)), .val (.ref b10), .val (.int (0 : Int32)), .val (.int (1 : Int32))] [(.int (if (0 : Int64) = (0 : Int64) then 1 else 0 : Int32))])
          rw [show (if (0 : Int64) = (0 : Int64) then 1 else 0 : Int32) = (1 : Int32) from by decide]
          show Go p e below _ T97 (mkF m 171 #[.val (.int x0), .val (.int x1), .val (.int x2), .val (.int x3), .val (.int x4), .val (.int x5), .val (.int (if (x0 &&& (1 : Int32)) = 0 then 0 else 1 : Int32)), .val (.int (if (x0 &&& (2 : Int32)) = 0 then 0 else 1 : Int32)), .val (.int (if (x0 &&& (4 : Int32)) = 0 then 0 else 1 : Int32)), .val (.ref b10), .val (.int (0 : Int32)), .val (.int (1 : Int32))] [(.int (1 : Int32))])
          refine Go.iload X97 hx (hb hby at_171) rfl rfl  ?_
          refine Go.icmpNo X97 hx (hb hby at_173) rfl (teq (by decide : (1 : Int32) = (1 : Int32))).2 ?_
          refine Go.iconst X97 hx (hb hby at_176) rfl (1 : Int32) rfl ?_
          refine Go.goto X97 hx (hb hby at_177) rfl 181 (by decide) (by decide) ?_
          exact Go.retZ X97 hx (z' := (1 : Int32)) hret hlk (hb hby at_181) rfl (by decide) ⟨by first | rfl | simp [hc30, hc43, hc56], M85⟩ (Nat.le_of_ble_eq_true rfl) (Nat.le_of_ble_eq_true rfl)
        · rw [hk]
          refine Go.iload X84 hx (hb hby at_115) rfl rfl  ?_
          refine Go.ifYes X84 hx (hb hby at_117) rfl 133 ((if0 _ _).trans (feq (by decide : ¬ ((1 : Int32) = (0 : Int32)))).2) (by decide) (by decide) ?_
          refine Go.iload X84 hx (hb hby at_133) rfl rfl  ?_
          refine Go.iconst X84 hx (hb hby at_135) rfl (1 : Int32) rfl ?_
          refine Go.icmpNo X84 hx (hb hby at_136) rfl (teq (by decide : (1 : Int32) = (1 : Int32))).2 ?_
          refine Go.iload X84 hx (hb hby at_139) rfl rfl  ?_
          refine Go.ifNo X84 hx (hb hby at_141) rfl ((if0 _ _).trans (teq hc43).2) ?_
          refine Go.iconst X84 hx (hb hby at_144) rfl (1 : Int32) rfl ?_
          refine Go.goto X84 hx (hb hby at_145) rfl 162 (by decide) (by decide) ?_
          refine Go.istore X84 hx (hb hby at_162) rfl  #[.val (.int x0), .val (.int x1), .val (.int x2), .val (.int x3), .val (.int x4), .val (.int x5), .val (.int (if (x0 &&& (1 : Int32)) = 0 then 0 else 1 : Int32)), .val (.int (if (x0 &&& (2 : Int32)) = 0 then 0 else 1 : Int32)), .val (.int (if (x0 &&& (4 : Int32)) = 0 then 0 else 1 : Int32)), .val (.ref b10), .val (.int (1 : Int32)), .val (.int (1 : Int32))] rfl ?_
          refine Go.aload X84 hx (hb hby at_164) rfl rfl rfl ?_
          refine Go.iload X84 hx (hb hby at_166) rfl rfl  ?_
          refine Go.pureV X84 hx hZ hown (wd 66 rfl) (wd 67 rfl) (notFace_of_selects (args := #[]) (mvT hZ (wd 69 rfl))) (wd 69 rfl) (wd 68 rfl) (wd 2 rfl) (wd 70 rfl) (by decide) [(.int (1 : Int32))] [] E87 (rmD1 l Z a0 hw b10 x15a b15a g19 k15a k19 (0 : Int64) (0 : Int64) (0 : Int64) (1 : Int64) (0 : Int64) (0 : Int64) T84.heap F88 E84 Fp84 V92 Vg84) rfl rfl (by rw [hml]; rfl) pd_4 rfl (hb hby at_168) (Nat.le_of_ble_eq_true rfl) (Nat.le_of_ble_eq_true rfl) (Nat.le_of_ble_eq_true rfl) (Nat.le_of_ble_eq_true rfl) ?_
          intro T98 X98 e98
          show Go p e below _ T98 (mkF m 171 #[.val (.int x0), .val (.int x1), .val (.int x2), .val (.int x3), .val (.int x4), .val (.int x5), .val (.int (if (x0 &&& (1 : Int32)) = 0 then 0 else 1 : Int32)), .val (.int (if (x0 &&& (2 : Int32)) = 0 then 0 else 1 : Int32)), .val (.int (if (x0 &&& (4 : Int32)) = 0 then 0 else 1 : Int32)), .val (.ref b10), .val (.int (1 : Int32)), .val (.int (1 : Int32))] [(.int (if (0 : Int64) = (0 : Int64) then 1 else 0 : Int32))])
          rw [show (if (0 : Int64) = (0 : Int64) then 1 else 0 : Int32) = (1 : Int32) from by decide]
          show Go p e below _ T98 (mkF m 171 #[.val (.int x0), .val (.int x1), .val (.int x2), .val (.int x3), .val (.int x4), .val (.int x5), .val (.int (if (x0 &&& (1 : Int32)) = 0 then 0 else 1 : Int32)), .val (.int (if (x0 &&& (2 : Int32)) = 0 then 0 else 1 : Int32)), .val (.int (if (x0 &&& (4 : Int32)) = 0 then 0 else 1 : Int32)), .val (.ref b10), .val (.int (1 : Int32)), .val (.int (1 : Int32))] [(.int (1 : Int32))])
          refine Go.iload X98 hx (hb hby at_171) rfl rfl  ?_
          refine Go.icmpNo X98 hx (hb hby at_173) rfl (teq (by decide : (1 : Int32) = (1 : Int32))).2 ?_
          refine Go.iconst X98 hx (hb hby at_176) rfl (1 : Int32) rfl ?_
          refine Go.goto X98 hx (hb hby at_177) rfl 181 (by decide) (by decide) ?_
          exact Go.retZ X98 hx (z' := (1 : Int32)) hret hlk (hb hby at_181) rfl (by decide) ⟨by first | rfl | simp [hc30, hc43, hc56], M85⟩ (Nat.le_of_ble_eq_true rfl) (Nat.le_of_ble_eq_true rfl)
        · rw [hk]
          refine Go.iload X84 hx (hb hby at_115) rfl rfl  ?_
          refine Go.ifYes X84 hx (hb hby at_117) rfl 133 ((if0 _ _).trans (feq (by decide : ¬ ((2 : Int32) = (0 : Int32)))).2) (by decide) (by decide) ?_
          refine Go.iload X84 hx (hb hby at_133) rfl rfl  ?_
          refine Go.iconst X84 hx (hb hby at_135) rfl (1 : Int32) rfl ?_
          refine Go.icmpYes X84 hx (hb hby at_136) rfl 152 (feq (by decide : ¬ ((2 : Int32) = (1 : Int32)))).2 (by decide) (by decide) ?_
          refine Go.iload X84 hx (hb hby at_152) rfl rfl  ?_
          refine Go.ifYes X84 hx (hb hby at_154) rfl 161 ((if0 _ _).trans (feq hc56).2) (by decide) (by decide) ?_
          refine Go.iconst X84 hx (hb hby at_161) rfl (0 : Int32) rfl ?_
          refine Go.istore X84 hx (hb hby at_162) rfl  #[.val (.int x0), .val (.int x1), .val (.int x2), .val (.int x3), .val (.int x4), .val (.int x5), .val (.int (if (x0 &&& (1 : Int32)) = 0 then 0 else 1 : Int32)), .val (.int (if (x0 &&& (2 : Int32)) = 0 then 0 else 1 : Int32)), .val (.int (if (x0 &&& (4 : Int32)) = 0 then 0 else 1 : Int32)), .val (.ref b10), .val (.int (2 : Int32)), .val (.int (0 : Int32))] rfl ?_
          refine Go.aload X84 hx (hb hby at_164) rfl rfl rfl ?_
          refine Go.iload X84 hx (hb hby at_166) rfl rfl  ?_
          refine Go.pureV X84 hx hZ hown (wd 66 rfl) (wd 67 rfl) (notFace_of_selects (args := #[]) (mvT hZ (wd 69 rfl))) (wd 69 rfl) (wd 68 rfl) (wd 2 rfl) (wd 70 rfl) (by decide) [(.int (2 : Int32))] [] E87 (rmD2 l Z a0 hw b10 x15a b15a g19 k15a k19 (0 : Int64) (0 : Int64) (0 : Int64) (1 : Int64) (0 : Int64) (0 : Int64) T84.heap F88 E84 Fp84 V92 Vg84) rfl rfl (by rw [hml]; rfl) pd_4 rfl (hb hby at_168) (Nat.le_of_ble_eq_true rfl) (Nat.le_of_ble_eq_true rfl) (Nat.le_of_ble_eq_true rfl) (Nat.le_of_ble_eq_true rfl) ?_
          intro T99 X99 e99
          show Go p e below _ T99 (mkF m 171 #[.val (.int x0), .val (.int x1), .val (.int x2), .val (.int x3), .val (.int x4), .val (.int x5), .val (.int (if (x0 &&& (1 : Int32)) = 0 then 0 else 1 : Int32)), .val (.int (if (x0 &&& (2 : Int32)) = 0 then 0 else 1 : Int32)), .val (.int (if (x0 &&& (4 : Int32)) = 0 then 0 else 1 : Int32)), .val (.ref b10), .val (.int (2 : Int32)), .val (.int (0 : Int32))] [(.int (if (0 : Int64) = (1 : Int64) then 1 else 0 : Int32))])
          rw [show (if (0 : Int64) = (1 : Int64) then 1 else 0 : Int32) = (0 : Int32) from by decide]
          show Go p e below _ T99 (mkF m 171 #[.val (.int x0), .val (.int x1), .val (.int x2), .val (.int x3), .val (.int x4), .val (.int x5), .val (.int (if (x0 &&& (1 : Int32)) = 0 then 0 else 1 : Int32)), .val (.int (if (x0 &&& (2 : Int32)) = 0 then 0 else 1 : Int32)), .val (.int (if (x0 &&& (4 : Int32)) = 0 then 0 else 1 : Int32)), .val (.ref b10), .val (.int (2 : Int32)), .val (.int (0 : Int32))] [(.int (0 : Int32))])
          refine Go.iload X99 hx (hb hby at_171) rfl rfl  ?_
          refine Go.icmpNo X99 hx (hb hby at_173) rfl (teq (by decide : (0 : Int32) = (0 : Int32))).2 ?_
          refine Go.iconst X99 hx (hb hby at_176) rfl (1 : Int32) rfl ?_
          refine Go.goto X99 hx (hb hby at_177) rfl 181 (by decide) (by decide) ?_
          exact Go.retZ X99 hx (z' := (1 : Int32)) hret hlk (hb hby at_181) rfl (by decide) ⟨by first | rfl | simp [hc30, hc43, hc56], M85⟩ (Nat.le_of_ble_eq_true rfl) (Nat.le_of_ble_eq_true rfl)
    · refine Go.ifNo X31 hx (hb hby at_72) rfl ((if0 _ _).trans (feq hc43).1) ?_
      refine Go.aload X31 hx (hb hby at_75) rfl rfl rfl ?_
      refine Go.iload X31 hx (hb hby at_77) rfl rfl  ?_
      refine Go.iload X31 hx (hb hby at_79) rfl rfl  ?_
      refine Go.callV X31 hx hZ hown (wd 76 rfl) (wd 77 rfl) (notFace_of_selects (args := #[]) (mvT hZ (wd 79 rfl))) (wd 79 rfl) (wd 78 rfl) (wd 2 rfl) (wd 80 rfl) (by decide) [(.int x4), (.int x5)] [] E34 (rm_addEdge_0 l Z a0 hw b10 x15b b15b k15b x4 x5 T31.heap O33 F36 E38 q_x15b ne_b10_x15b ne_b10_b15b n6_15 F39 F40 q_b15b V41 Ovb15) rfl rfl (by rw [hml]; rfl) pd_6 rfl (hb hby at_81) (Nat.le_of_ble_eq_true rfl) (Nat.le_of_ble_eq_true rfl) (Nat.le_of_ble_eq_true rfl) (Nat.le_of_ble_eq_true rfl) ?_
      rintro vv100 T100 L100 X100 Q100
      obtain ⟨rfl, N100, K100, E100, g100, k100, sz100, Fp100, Fs100, Vb100, Vg100⟩ := Q100
      have M101 := Fr.app M32 N100
      have q100 : Z.heap.size ≤ g100 := Nat.le_trans O33.2.1 sz100
      have ne_b10_g100 : b10 ≠ g100 := Nat.ne_of_lt (Nat.lt_of_lt_of_le E34.lt sz100)
      have ne_x15a_g100 : x15a ≠ g100 := Nat.ne_of_lt (Nat.lt_of_lt_of_le E31.lt sz100)
      have ne_x15b_g100 : x15b ≠ g100 := Nat.ne_of_lt (Nat.lt_of_lt_of_le E38.lt sz100)
      have ne_b15b_g100 : b15b ≠ g100 := Nat.ne_of_lt (Nat.lt_of_lt_of_le V41.lt sz100)
      have ne_b15a_g100 : b15a ≠ g100 := Nat.ne_of_lt (Nat.lt_of_lt_of_le V42.lt sz100)
      have ne_g19_g100 : g19 ≠ g100 := Nat.ne_of_lt (Nat.lt_of_lt_of_le Vg31.lt sz100)
      have O102 := O33.keep K100 (allS q_x15b (allS q_b15b (all0)))
      have E103 := E34.keep K100
      have F104 := F35.keep K100 (ninS ne_b10_x15b (ninS ne_b10_b15b (nin0)))
      have F105 := F36.keep K100 (ninS ne_b10_x15b (ninS ne_b10_b15b (nin0)))
      have E106 := E31.keep K100
      have E107 := E38.keep K100
      have V108 := V42.keep K100 (ninS n4_15 (ninS n5_15 (nin0)))
      have F109 := Fp31.keep K100 (ninS n2_15 (ninS n3_15 (nin0)))
      have F110 := Fs31.keep K100 (ninS n2_15 (ninS n3_15 (nin0)))
      have V111 := Vg31.keep K100 (ninS (Ne.symm ne_x15b_g19) (ninS (Ne.symm ne_b15b_g19) (nin0)))
      refine Go.aload X100 hx (hb hby at_84) rfl rfl rfl ?_
      refine Go.callV X100 hx hZ hown (wd 49 rfl) (wd 50 rfl) (notFace_of_selects (args := #[]) (mvT hZ (wd 52 rfl))) (wd 52 rfl) (wd 51 rfl) (wd 2 rfl) (wd 53 rfl) (by decide) [] [] E103 (rm_startEdges_2 l Z a0 hw b10 x15a b15a k15a g19 k19 (0 : Int64) (0 : Int64) (0 : Int64) (0 : Int64) (0 : Int64) (0 : Int64) x15b (1 : Int64) T100.heap O102 F104 E106 q_x15a ne_b10_x15a ne_b10_b15a n1_15 F109 F110 q19 ne_b10_g19 ne_x15a_g19 ne_b15a_g19 V108 V111 F105 E100 Fs100 (Ne.symm n2_15) (Ne.symm n4_15) ne_x15b_g19) rfl rfl (by rw [hml]; rfl) pd_0 rfl (hb hby at_86) (Nat.le_of_ble_eq_true rfl) (Nat.le_of_ble_eq_true rfl) (Nat.le_of_ble_eq_true rfl) (Nat.le_of_ble_eq_true rfl) ?_
      rintro vv112 T112 L112 X112 Q112
      obtain ⟨rfl, N112, K112, E112, Fp112, Fs112, Vb112, Vg112⟩ := Q112
      have M113 := Fr.app M101 N112
      have O114 := O102.keep K112 (allS q_x15a (allS q19 (all0)))
      have E115 := E103.keep K112
      have F116 := F104.keep K112 (ninS ne_b10_x15a (ninS ne_b10_g19 (nin0)))
      have F117 := F105.keep K112 (ninS ne_b10_x15a (ninS ne_b10_g19 (nin0)))
      have E118 := E106.keep K112
      have E119 := E100.keep K112
      have V120 := V108.keep K112 (ninS (Ne.symm n1_15) (ninS ne_b15a_g19 (nin0)))
      have F121 := Fp100.keep K112 (ninS (Ne.symm n2_15) (ninS ne_x15b_g19 (nin0)))
      have F122 := Fs100.keep K112 (ninS (Ne.symm n2_15) (ninS ne_x15b_g19 (nin0)))
      have V123 := Vb100.keep K112 (ninS (Ne.symm n3_15) (ninS ne_b15b_g19 (nin0)))
      have V124 := Vg100.keep K112 (ninS (Ne.symm ne_x15a_g100) (ninS (Ne.symm ne_g19_g100) (nin0)))
      refine Go.iload X112 hx (hb hby at_89) rfl rfl  ?_
      by_cases hc125 : (if (x0 &&& (4 : Int32)) = 0 then 0 else 1 : Int32) = (0 : Int32)
      · refine Go.ifYes X112 hx (hb hby at_91) rfl 102 ((if0 _ _).trans (teq hc125).1) (by decide) (by decide) ?_
        refine Go.aload X112 hx (hb hby at_102) rfl rfl rfl ?_
        refine Go.callV X112 hx hZ hown (wd 60 rfl) (wd 61 rfl) (notFace_of_selects (args := #[]) (mvT hZ (wd 63 rfl))) (wd 63 rfl) (wd 62 rfl) (wd 2 rfl) (wd 64 rfl) (by decide) [] [] E115 (rm_endEdges_3 l Z a0 hw b10 x15a b15a k15a g19 k19 (0 : Int64) (0 : Int64) (1 : Int64) (0 : Int64) (0 : Int64) (0 : Int64) x15b (1 : Int64) T112.heap O114 F116 E112 q_x15a ne_b10_x15a ne_b10_b15a n1_15 Fp112 Fs112 q19 ne_b10_g19 ne_x15a_g19 ne_b15a_g19 V120 Vg112 F117 E119 F122 (Ne.symm n2_15) (Ne.symm n4_15) ne_x15b_g19) rfl rfl (by rw [hml]; rfl) pd_0 rfl (hb hby at_104) (Nat.le_of_ble_eq_true rfl) (Nat.le_of_ble_eq_true rfl) (Nat.le_of_ble_eq_true rfl) (Nat.le_of_ble_eq_true rfl) ?_
        rintro vv126 T126 L126 X126 Q126
        obtain ⟨rfl, N126, K126, E126, Fp126, Fs126, Vb126, Vg126⟩ := Q126
        have M127 := Fr.app M113 N126
        have O128 := O114.keep K126 (allS q_x15a (allS q19 (all0)))
        have E129 := E115.keep K126
        have F130 := F116.keep K126 (ninS ne_b10_x15a (ninS ne_b10_g19 (nin0)))
        have F131 := F117.keep K126 (ninS ne_b10_x15a (ninS ne_b10_g19 (nin0)))
        have E132 := E112.keep K126
        have E133 := E119.keep K126
        have V134 := V120.keep K126 (ninS (Ne.symm n1_15) (ninS ne_b15a_g19 (nin0)))
        have F135 := F121.keep K126 (ninS (Ne.symm n2_15) (ninS ne_x15b_g19 (nin0)))
        have F136 := F122.keep K126 (ninS (Ne.symm n2_15) (ninS ne_x15b_g19 (nin0)))
        have V137 := V123.keep K126 (ninS (Ne.symm n3_15) (ninS ne_b15b_g19 (nin0)))
        have V138 := V124.keep K126 (ninS (Ne.symm ne_x15a_g100) (ninS (Ne.symm ne_g19_g100) (nin0)))
        refine Go.iloadN X126 hx (hb hby at_107) rfl rfl  ?_
        refine Go.ldc X126 hx hZ hown (wd 65 rfl) (hb hby at_108) rfl ?_
        refine Go.iand X126 hx (hb hby at_110) rfl ?_
        refine Go.iconst X126 hx (hb hby at_111) rfl (3 : Int32) rfl ?_
        refine Go.irem X126 hx (hb hby at_112) rfl (by decide) ?_
        refine Go.istore X126 hx (hb hby at_113) rfl  #[.val (.int x0), .val (.int x1), .val (.int x2), .val (.int x3), .val (.int x4), .val (.int x5), .val (.int (if (x0 &&& (1 : Int32)) = 0 then 0 else 1 : Int32)), .val (.int (if (x0 &&& (2 : Int32)) = 0 then 0 else 1 : Int32)), .val (.int (if (x0 &&& (4 : Int32)) = 0 then 0 else 1 : Int32)), .val (.ref b10), .val (.int ((x1 &&& (2147483647 : Int32)) % (3 : Int32))), .unset] rfl ?_
        rcases own_rem3 x1 with hk | hk | hk
        · rw [hk]
          refine Go.iload X126 hx (hb hby at_115) rfl rfl  ?_
          refine Go.ifNo X126 hx (hb hby at_117) rfl ((if0 _ _).trans (teq (by decide : (0 : Int32) = (0 : Int32))).2) ?_
          refine Go.iload X126 hx (hb hby at_120) rfl rfl  ?_
          refine Go.ifNo X126 hx (hb hby at_122) rfl ((if0 _ _).trans (teq hc30).2) ?_
          refine Go.iconst X126 hx (hb hby at_125) rfl (1 : Int32) rfl ?_
          refine Go.goto X126 hx (hb hby at_126) rfl 162 (by decide) (by decide) ?_
          refine Go.istore X126 hx (hb hby at_162) rfl  #[.val (.int x0), .val (.int x1), .val (.int x2), .val (.int x3), .val (.int x4), .val (.int x5), .val (.int (if (x0 &&& (1 : Int32)) = 0 then 0 else 1 : Int32)), .val (.int (if (x0 &&& (2 : Int32)) = 0 then 0 else 1 : Int32)), .val (.int (if (x0 &&& (4 : Int32)) = 0 then 0 else 1 : Int32)), .val (.ref b10), .val (.int (0 : Int32)), .val (.int (1 : Int32))] rfl ?_
          refine Go.aload X126 hx (hb hby at_164) rfl rfl rfl ?_
          refine Go.iload X126 hx (hb hby at_166) rfl rfl  ?_
          refine Go.pureV X126 hx hZ hown (wd 66 rfl) (wd 67 rfl) (notFace_of_selects (args := #[]) (mvT hZ (wd 69 rfl))) (wd 69 rfl) (wd 68 rfl) (wd 2 rfl) (wd 70 rfl) (by decide) [(.int (0 : Int32))] [] E129 (rmD0 l Z a0 hw b10 x15a b15a g19 k15a k19 (0 : Int64) (0 : Int64) (1 : Int64) (1 : Int64) (0 : Int64) (0 : Int64) T126.heap F130 E126 Fp126 V134 Vg126) rfl rfl (by rw [hml]; rfl) pd_4 rfl (hb hby at_168) (Nat.le_of_ble_eq_true rfl) (Nat.le_of_ble_eq_true rfl) (Nat.le_of_ble_eq_true rfl) (Nat.le_of_ble_eq_true rfl) ?_
          intro T139 X139 e139
          show Go p e below _ T139 (mkF m 171 #[.val (.int x0), .val (.int x1), .val (.int x2), .val (.int x3), .val (.int x4), .val (.int x5), .val (.int (if (x0 &&& (1 : Int32)) = 0 then 0 else 1 : Int32)), .val (.int (if (x0 &&& (2 : Int32)) = 0 then 0 else 1 : Int32)), .val (.int (if (x0 &&& (4 : Int32)) = 0 then 0 else 1 : Int32)), .val (.ref b10), .val (.int (0 : Int32)), .val (.int (1 : Int32))] [(.int (if (0 : Int64) = (0 : Int64) then 1 else 0 : Int32))])
          rw [show (if (0 : Int64) = (0 : Int64) then 1 else 0 : Int32) = (1 : Int32) from by decide]
          show Go p e below _ T139 (mkF m 171 #[.val (.int x0), .val (.int x1), .val (.int x2), .val (.int x3), .val (.int x4), .val (.int x5), .val (.int (if (x0 &&& (1 : Int32)) = 0 then 0 else 1 : Int32)), .val (.int (if (x0 &&& (2 : Int32)) = 0 then 0 else 1 : Int32)), .val (.int (if (x0 &&& (4 : Int32)) = 0 then 0 else 1 : Int32)), .val (.ref b10), .val (.int (0 : Int32)), .val (.int (1 : Int32))] [(.int (1 : Int32))])
          refine Go.iload X139 hx (hb hby at_171) rfl rfl  ?_
          refine Go.icmpNo X139 hx (hb hby at_173) rfl (teq (by decide : (1 : Int32) = (1 : Int32))).2 ?_
          refine Go.iconst X139 hx (hb hby at_176) rfl (1 : Int32) rfl ?_
          refine Go.goto X139 hx (hb hby at_177) rfl 181 (by decide) (by decide) ?_
          exact Go.retZ X139 hx (z' := (1 : Int32)) hret hlk (hb hby at_181) rfl (by decide) ⟨by first | rfl | simp [hc30, hc43, hc125], M127⟩ (Nat.le_of_ble_eq_true rfl) (Nat.le_of_ble_eq_true rfl)
        · rw [hk]
          refine Go.iload X126 hx (hb hby at_115) rfl rfl  ?_
          refine Go.ifYes X126 hx (hb hby at_117) rfl 133 ((if0 _ _).trans (feq (by decide : ¬ ((1 : Int32) = (0 : Int32)))).2) (by decide) (by decide) ?_
          refine Go.iload X126 hx (hb hby at_133) rfl rfl  ?_
          refine Go.iconst X126 hx (hb hby at_135) rfl (1 : Int32) rfl ?_
          refine Go.icmpNo X126 hx (hb hby at_136) rfl (teq (by decide : (1 : Int32) = (1 : Int32))).2 ?_
          refine Go.iload X126 hx (hb hby at_139) rfl rfl  ?_
          refine Go.ifYes X126 hx (hb hby at_141) rfl 148 ((if0 _ _).trans (feq hc43).2) (by decide) (by decide) ?_
          refine Go.iconst X126 hx (hb hby at_148) rfl (0 : Int32) rfl ?_
          refine Go.goto X126 hx (hb hby at_149) rfl 162 (by decide) (by decide) ?_
          refine Go.istore X126 hx (hb hby at_162) rfl  #[.val (.int x0), .val (.int x1), .val (.int x2), .val (.int x3), .val (.int x4), .val (.int x5), .val (.int (if (x0 &&& (1 : Int32)) = 0 then 0 else 1 : Int32)), .val (.int (if (x0 &&& (2 : Int32)) = 0 then 0 else 1 : Int32)), .val (.int (if (x0 &&& (4 : Int32)) = 0 then 0 else 1 : Int32)), .val (.ref b10), .val (.int (1 : Int32)), .val (.int (0 : Int32))] rfl ?_
          refine Go.aload X126 hx (hb hby at_164) rfl rfl rfl ?_
          refine Go.iload X126 hx (hb hby at_166) rfl rfl  ?_
          refine Go.pureV X126 hx hZ hown (wd 66 rfl) (wd 67 rfl) (notFace_of_selects (args := #[]) (mvT hZ (wd 69 rfl))) (wd 69 rfl) (wd 68 rfl) (wd 2 rfl) (wd 70 rfl) (by decide) [(.int (1 : Int32))] [] E129 (rmD1 l Z a0 hw b10 x15a b15a g19 k15a k19 (0 : Int64) (0 : Int64) (1 : Int64) (1 : Int64) (0 : Int64) (0 : Int64) T126.heap F130 E126 Fp126 V134 Vg126) rfl rfl (by rw [hml]; rfl) pd_4 rfl (hb hby at_168) (Nat.le_of_ble_eq_true rfl) (Nat.le_of_ble_eq_true rfl) (Nat.le_of_ble_eq_true rfl) (Nat.le_of_ble_eq_true rfl) ?_
          intro T140 X140 e140
          show Go p e below _ T140 (mkF m 171 #[.val (.int x0), .val (.int x1), .val (.int x2), .val (.int x3), .val (.int x4), .val (.int x5), .val (.int (if (x0 &&& (1 : Int32)) = 0 then 0 else 1 : Int32)), .val (.int (if (x0 &&& (2 : Int32)) = 0 then 0 else 1 : Int32)), .val (.int (if (x0 &&& (4 : Int32)) = 0 then 0 else 1 : Int32)), .val (.ref b10), .val (.int (1 : Int32)), .val (.int (0 : Int32))] [(.int (if (0 : Int64) = (1 : Int64) then 1 else 0 : Int32))])
          rw [show (if (0 : Int64) = (1 : Int64) then 1 else 0 : Int32) = (0 : Int32) from by decide]
          show Go p e below _ T140 (mkF m 171 #[.val (.int x0), .val (.int x1), .val (.int x2), .val (.int x3), .val (.int x4), .val (.int x5), .val (.int (if (x0 &&& (1 : Int32)) = 0 then 0 else 1 : Int32)), .val (.int (if (x0 &&& (2 : Int32)) = 0 then 0 else 1 : Int32)), .val (.int (if (x0 &&& (4 : Int32)) = 0 then 0 else 1 : Int32)), .val (.ref b10), .val (.int (1 : Int32)), .val (.int (0 : Int32))] [(.int (0 : Int32))])
          refine Go.iload X140 hx (hb hby at_171) rfl rfl  ?_
          refine Go.icmpNo X140 hx (hb hby at_173) rfl (teq (by decide : (0 : Int32) = (0 : Int32))).2 ?_
          refine Go.iconst X140 hx (hb hby at_176) rfl (1 : Int32) rfl ?_
          refine Go.goto X140 hx (hb hby at_177) rfl 181 (by decide) (by decide) ?_
          exact Go.retZ X140 hx (z' := (1 : Int32)) hret hlk (hb hby at_181) rfl (by decide) ⟨by first | rfl | simp [hc30, hc43, hc125], M127⟩ (Nat.le_of_ble_eq_true rfl) (Nat.le_of_ble_eq_true rfl)
        · rw [hk]
          refine Go.iload X126 hx (hb hby at_115) rfl rfl  ?_
          refine Go.ifYes X126 hx (hb hby at_117) rfl 133 ((if0 _ _).trans (feq (by decide : ¬ ((2 : Int32) = (0 : Int32)))).2) (by decide) (by decide) ?_
          refine Go.iload X126 hx (hb hby at_133) rfl rfl  ?_
          refine Go.iconst X126 hx (hb hby at_135) rfl (1 : Int32) rfl ?_
          refine Go.icmpYes X126 hx (hb hby at_136) rfl 152 (feq (by decide : ¬ ((2 : Int32) = (1 : Int32)))).2 (by decide) (by decide) ?_
          refine Go.iload X126 hx (hb hby at_152) rfl rfl  ?_
          refine Go.ifNo X126 hx (hb hby at_154) rfl ((if0 _ _).trans (teq hc125).2) ?_
          refine Go.iconst X126 hx (hb hby at_157) rfl (1 : Int32) rfl ?_
          refine Go.goto X126 hx (hb hby at_158) rfl 162 (by decide) (by decide) ?_
          refine Go.istore X126 hx (hb hby at_162) rfl  #[.val (.int x0), .val (.int x1), .val (.int x2), .val (.int x3), .val (.int x4), .val (.int x5), .val (.int (if (x0 &&& (1 : Int32)) = 0 then 0 else 1 : Int32)), .val (.int (if (x0 &&& (2 : Int32)) = 0 then 0 else 1 : Int32)), .val (.int (if (x0 &&& (4 : Int32)) = 0 then 0 else 1 : Int32)), .val (.ref b10), .val (.int (2 : Int32)), .val (.int (1 : Int32))] rfl ?_
          refine Go.aload X126 hx (hb hby at_164) rfl rfl rfl ?_
          refine Go.iload X126 hx (hb hby at_166) rfl rfl  ?_
          refine Go.pureV X126 hx hZ hown (wd 66 rfl) (wd 67 rfl) (notFace_of_selects (args := #[]) (mvT hZ (wd 69 rfl))) (wd 69 rfl) (wd 68 rfl) (wd 2 rfl) (wd 70 rfl) (by decide) [(.int (2 : Int32))] [] E129 (rmD2 l Z a0 hw b10 x15a b15a g19 k15a k19 (0 : Int64) (0 : Int64) (1 : Int64) (1 : Int64) (0 : Int64) (0 : Int64) T126.heap F130 E126 Fp126 V134 Vg126) rfl rfl (by rw [hml]; rfl) pd_4 rfl (hb hby at_168) (Nat.le_of_ble_eq_true rfl) (Nat.le_of_ble_eq_true rfl) (Nat.le_of_ble_eq_true rfl) (Nat.le_of_ble_eq_true rfl) ?_
          intro T141 X141 e141
          show Go p e below _ T141 (mkF m 171 #[.val (.int x0), .val (.int x1), .val (.int x2), .val (.int x3), .val (.int x4), .val (.int x5), .val (.int (if (x0 &&& (1 : Int32)) = 0 then 0 else 1 : Int32)), .val (.int (if (x0 &&& (2 : Int32)) = 0 then 0 else 1 : Int32)), .val (.int (if (x0 &&& (4 : Int32)) = 0 then 0 else 1 : Int32)), .val (.ref b10), .val (.int (2 : Int32)), .val (.int (1 : Int32))] [(.int (if (1 : Int64) = (1 : Int64) then 1 else 0 : Int32))])
          rw [show (if (1 : Int64) = (1 : Int64) then 1 else 0 : Int32) = (1 : Int32) from by decide]
          show Go p e below _ T141 (mkF m 171 #[.val (.int x0), .val (.int x1), .val (.int x2), .val (.int x3), .val (.int x4), .val (.int x5), .val (.int (if (x0 &&& (1 : Int32)) = 0 then 0 else 1 : Int32)), .val (.int (if (x0 &&& (2 : Int32)) = 0 then 0 else 1 : Int32)), .val (.int (if (x0 &&& (4 : Int32)) = 0 then 0 else 1 : Int32)), .val (.ref b10), .val (.int (2 : Int32)), .val (.int (1 : Int32))] [(.int (1 : Int32))])
          refine Go.iload X141 hx (hb hby at_171) rfl rfl  ?_
          refine Go.icmpNo X141 hx (hb hby at_173) rfl (teq (by decide : (1 : Int32) = (1 : Int32))).2 ?_
          refine Go.iconst X141 hx (hb hby at_176) rfl (1 : Int32) rfl ?_
          refine Go.goto X141 hx (hb hby at_177) rfl 181 (by decide) (by decide) ?_
          exact Go.retZ X141 hx (z' := (1 : Int32)) hret hlk (hb hby at_181) rfl (by decide) ⟨by first | rfl | simp [hc30, hc43, hc125], M127⟩ (Nat.le_of_ble_eq_true rfl) (Nat.le_of_ble_eq_true rfl)
      · refine Go.ifNo X112 hx (hb hby at_91) rfl ((if0 _ _).trans (feq hc125).1) ?_
        refine Go.aload X112 hx (hb hby at_94) rfl rfl rfl ?_
        refine Go.iloadN X112 hx (hb hby at_96) rfl rfl  ?_
        refine Go.iload X112 hx (hb hby at_97) rfl rfl  ?_
        refine Go.callV X112 hx hZ hown (wd 76 rfl) (wd 77 rfl) (notFace_of_selects (args := #[]) (mvT hZ (wd 79 rfl))) (wd 79 rfl) (wd 78 rfl) (wd 2 rfl) (wd 80 rfl) (by decide) [(.int x3), (.int x4)] [] E115 (rm_addEdge_1 l Z a0 hw b10 x15b b15b k15b g100 k100 ((((x4).toInt64) <<< ((32 : Int32) &&& 0x3f).toInt64) ||| (((x5).toInt64) &&& (4294967295 : Int64))) (0 : Int64) (0 : Int64) (0 : Int64) (0 : Int64) (0 : Int64) x3 x4 T112.heap O114 F117 E119 q_x15b ne_b10_x15b ne_b10_b15b n6_15 F121 F122 q100 ne_b10_g100 ne_x15b_g100 ne_b15b_g100 V123 V124) rfl rfl (by rw [hml]; rfl) pd_6 rfl (hb hby at_99) (Nat.le_of_ble_eq_true rfl) (Nat.le_of_ble_eq_true rfl) (Nat.le_of_ble_eq_true rfl) (Nat.le_of_ble_eq_true rfl) ?_
        rintro vv142 T142 L142 X142 Q142
        obtain ⟨rfl, N142, K142, E142, Fp142, Fs142, Vb142, Vg142⟩ := Q142
        have M143 := Fr.app M113 N142
        have O144 := O114.keep K142 (allS q_x15b (allS q100 (all0)))
        have E145 := E115.keep K142
        have F146 := F116.keep K142 (ninS ne_b10_x15b (ninS ne_b10_g100 (nin0)))
        have F147 := F117.keep K142 (ninS ne_b10_x15b (ninS ne_b10_g100 (nin0)))
        have E148 := E112.keep K142
        have E149 := E119.keep K142
        have V150 := V120.keep K142 (ninS n4_15 (ninS ne_b15a_g100 (nin0)))
        have V151 := V123.keep K142 (ninS (Ne.symm n6_15) (ninS ne_b15b_g100 (nin0)))
        have F152 := Fp112.keep K142 (ninS n2_15 (ninS ne_x15a_g100 (nin0)))
        have F153 := Fs112.keep K142 (ninS n2_15 (ninS ne_x15a_g100 (nin0)))
        have V154 := Vg112.keep K142 (ninS (Ne.symm ne_x15b_g19) (ninS ne_g19_g100 (nin0)))
        refine Go.aload X142 hx (hb hby at_102) rfl rfl rfl ?_
        refine Go.callV X142 hx hZ hown (wd 60 rfl) (wd 61 rfl) (notFace_of_selects (args := #[]) (mvT hZ (wd 63 rfl))) (wd 63 rfl) (wd 62 rfl) (wd 2 rfl) (wd 64 rfl) (by decide) [] [] E145 (rm_endEdges_3 l Z a0 hw b10 x15a b15a k15a g19 k19 (0 : Int64) (0 : Int64) (1 : Int64) (0 : Int64) (0 : Int64) (0 : Int64) x15b (2 : Int64) T142.heap O144 F146 E148 q_x15a ne_b10_x15a ne_b10_b15a n1_15 F152 F153 q19 ne_b10_g19 ne_x15a_g19 ne_b15a_g19 V150 V154 F147 E142 Fs142 (Ne.symm n2_15) (Ne.symm n4_15) ne_x15b_g19) rfl rfl (by rw [hml]; rfl) pd_0 rfl (hb hby at_104) (Nat.le_of_ble_eq_true rfl) (Nat.le_of_ble_eq_true rfl) (Nat.le_of_ble_eq_true rfl) (Nat.le_of_ble_eq_true rfl) ?_
        rintro vv155 T155 L155 X155 Q155
        obtain ⟨rfl, N155, K155, E155, Fp155, Fs155, Vb155, Vg155⟩ := Q155
        have M156 := Fr.app M143 N155
        have O157 := O144.keep K155 (allS q_x15a (allS q19 (all0)))
        have E158 := E145.keep K155
        have F159 := F146.keep K155 (ninS ne_b10_x15a (ninS ne_b10_g19 (nin0)))
        have F160 := F147.keep K155 (ninS ne_b10_x15a (ninS ne_b10_g19 (nin0)))
        have E161 := E148.keep K155
        have E162 := E142.keep K155
        have V163 := V150.keep K155 (ninS (Ne.symm n1_15) (ninS ne_b15a_g19 (nin0)))
        have V164 := V151.keep K155 (ninS (Ne.symm n3_15) (ninS ne_b15b_g19 (nin0)))
        have F165 := Fp142.keep K155 (ninS (Ne.symm n2_15) (ninS ne_x15b_g19 (nin0)))
        have F166 := Fs142.keep K155 (ninS (Ne.symm n2_15) (ninS ne_x15b_g19 (nin0)))
        have V167 := Vg142.keep K155 (ninS (Ne.symm ne_x15a_g100) (ninS (Ne.symm ne_g19_g100) (nin0)))
        refine Go.iloadN X155 hx (hb hby at_107) rfl rfl  ?_
        refine Go.ldc X155 hx hZ hown (wd 65 rfl) (hb hby at_108) rfl ?_
        refine Go.iand X155 hx (hb hby at_110) rfl ?_
        refine Go.iconst X155 hx (hb hby at_111) rfl (3 : Int32) rfl ?_
        refine Go.irem X155 hx (hb hby at_112) rfl (by decide) ?_
        refine Go.istore X155 hx (hb hby at_113) rfl  #[.val (.int x0), .val (.int x1), .val (.int x2), .val (.int x3), .val (.int x4), .val (.int x5), .val (.int (if (x0 &&& (1 : Int32)) = 0 then 0 else 1 : Int32)), .val (.int (if (x0 &&& (2 : Int32)) = 0 then 0 else 1 : Int32)), .val (.int (if (x0 &&& (4 : Int32)) = 0 then 0 else 1 : Int32)), .val (.ref b10), .val (.int ((x1 &&& (2147483647 : Int32)) % (3 : Int32))), .unset] rfl ?_
        rcases own_rem3 x1 with hk | hk | hk
        · rw [hk]
          refine Go.iload X155 hx (hb hby at_115) rfl rfl  ?_
          refine Go.ifNo X155 hx (hb hby at_117) rfl ((if0 _ _).trans (teq (by decide : (0 : Int32) = (0 : Int32))).2) ?_
          refine Go.iload X155 hx (hb hby at_120) rfl rfl  ?_
          refine Go.ifNo X155 hx (hb hby at_122) rfl ((if0 _ _).trans (teq hc30).2) ?_
          refine Go.iconst X155 hx (hb hby at_125) rfl (1 : Int32) rfl ?_
          refine Go.goto X155 hx (hb hby at_126) rfl 162 (by decide) (by decide) ?_
          refine Go.istore X155 hx (hb hby at_162) rfl  #[.val (.int x0), .val (.int x1), .val (.int x2), .val (.int x3), .val (.int x4), .val (.int x5), .val (.int (if (x0 &&& (1 : Int32)) = 0 then 0 else 1 : Int32)), .val (.int (if (x0 &&& (2 : Int32)) = 0 then 0 else 1 : Int32)), .val (.int (if (x0 &&& (4 : Int32)) = 0 then 0 else 1 : Int32)), .val (.ref b10), .val (.int (0 : Int32)), .val (.int (1 : Int32))] rfl ?_
          refine Go.aload X155 hx (hb hby at_164) rfl rfl rfl ?_
          refine Go.iload X155 hx (hb hby at_166) rfl rfl  ?_
          refine Go.pureV X155 hx hZ hown (wd 66 rfl) (wd 67 rfl) (notFace_of_selects (args := #[]) (mvT hZ (wd 69 rfl))) (wd 69 rfl) (wd 68 rfl) (wd 2 rfl) (wd 70 rfl) (by decide) [(.int (0 : Int32))] [] E158 (rmD0 l Z a0 hw b10 x15a b15a g19 k15a k19 (0 : Int64) (0 : Int64) (1 : Int64) (2 : Int64) (0 : Int64) (0 : Int64) T155.heap F159 E155 Fp155 V163 Vg155) rfl rfl (by rw [hml]; rfl) pd_4 rfl (hb hby at_168) (Nat.le_of_ble_eq_true rfl) (Nat.le_of_ble_eq_true rfl) (Nat.le_of_ble_eq_true rfl) (Nat.le_of_ble_eq_true rfl) ?_
          intro T168 X168 e168
          show Go p e below _ T168 (mkF m 171 #[.val (.int x0), .val (.int x1), .val (.int x2), .val (.int x3), .val (.int x4), .val (.int x5), .val (.int (if (x0 &&& (1 : Int32)) = 0 then 0 else 1 : Int32)), .val (.int (if (x0 &&& (2 : Int32)) = 0 then 0 else 1 : Int32)), .val (.int (if (x0 &&& (4 : Int32)) = 0 then 0 else 1 : Int32)), .val (.ref b10), .val (.int (0 : Int32)), .val (.int (1 : Int32))] [(.int (if (0 : Int64) = (0 : Int64) then 1 else 0 : Int32))])
          rw [show (if (0 : Int64) = (0 : Int64) then 1 else 0 : Int32) = (1 : Int32) from by decide]
          show Go p e below _ T168 (mkF m 171 #[.val (.int x0), .val (.int x1), .val (.int x2), .val (.int x3), .val (.int x4), .val (.int x5), .val (.int (if (x0 &&& (1 : Int32)) = 0 then 0 else 1 : Int32)), .val (.int (if (x0 &&& (2 : Int32)) = 0 then 0 else 1 : Int32)), .val (.int (if (x0 &&& (4 : Int32)) = 0 then 0 else 1 : Int32)), .val (.ref b10), .val (.int (0 : Int32)), .val (.int (1 : Int32))] [(.int (1 : Int32))])
          refine Go.iload X168 hx (hb hby at_171) rfl rfl  ?_
          refine Go.icmpNo X168 hx (hb hby at_173) rfl (teq (by decide : (1 : Int32) = (1 : Int32))).2 ?_
          refine Go.iconst X168 hx (hb hby at_176) rfl (1 : Int32) rfl ?_
          refine Go.goto X168 hx (hb hby at_177) rfl 181 (by decide) (by decide) ?_
          exact Go.retZ X168 hx (z' := (1 : Int32)) hret hlk (hb hby at_181) rfl (by decide) ⟨by first | rfl | simp [hc30, hc43, hc125], M156⟩ (Nat.le_of_ble_eq_true rfl) (Nat.le_of_ble_eq_true rfl)
        · rw [hk]
          refine Go.iload X155 hx (hb hby at_115) rfl rfl  ?_
          refine Go.ifYes X155 hx (hb hby at_117) rfl 133 ((if0 _ _).trans (feq (by decide : ¬ ((1 : Int32) = (0 : Int32)))).2) (by decide) (by decide) ?_
          refine Go.iload X155 hx (hb hby at_133) rfl rfl  ?_
          refine Go.iconst X155 hx (hb hby at_135) rfl (1 : Int32) rfl ?_
          refine Go.icmpNo X155 hx (hb hby at_136) rfl (teq (by decide : (1 : Int32) = (1 : Int32))).2 ?_
          refine Go.iload X155 hx (hb hby at_139) rfl rfl  ?_
          refine Go.ifYes X155 hx (hb hby at_141) rfl 148 ((if0 _ _).trans (feq hc43).2) (by decide) (by decide) ?_
          refine Go.iconst X155 hx (hb hby at_148) rfl (0 : Int32) rfl ?_
          refine Go.goto X155 hx (hb hby at_149) rfl 162 (by decide) (by decide) ?_
          refine Go.istore X155 hx (hb hby at_162) rfl  #[.val (.int x0), .val (.int x1), .val (.int x2), .val (.int x3), .val (.int x4), .val (.int x5), .val (.int (if (x0 &&& (1 : Int32)) = 0 then 0 else 1 : Int32)), .val (.int (if (x0 &&& (2 : Int32)) = 0 then 0 else 1 : Int32)), .val (.int (if (x0 &&& (4 : Int32)) = 0 then 0 else 1 : Int32)), .val (.ref b10), .val (.int (1 : Int32)), .val (.int (0 : Int32))] rfl ?_
          refine Go.aload X155 hx (hb hby at_164) rfl rfl rfl ?_
          refine Go.iload X155 hx (hb hby at_166) rfl rfl  ?_
          refine Go.pureV X155 hx hZ hown (wd 66 rfl) (wd 67 rfl) (notFace_of_selects (args := #[]) (mvT hZ (wd 69 rfl))) (wd 69 rfl) (wd 68 rfl) (wd 2 rfl) (wd 70 rfl) (by decide) [(.int (1 : Int32))] [] E158 (rmD1 l Z a0 hw b10 x15a b15a g19 k15a k19 (0 : Int64) (0 : Int64) (1 : Int64) (2 : Int64) (0 : Int64) (0 : Int64) T155.heap F159 E155 Fp155 V163 Vg155) rfl rfl (by rw [hml]; rfl) pd_4 rfl (hb hby at_168) (Nat.le_of_ble_eq_true rfl) (Nat.le_of_ble_eq_true rfl) (Nat.le_of_ble_eq_true rfl) (Nat.le_of_ble_eq_true rfl) ?_
          intro T169 X169 e169
          show Go p e below _ T169 (mkF m 171 #[.val (.int x0), .val (.int x1), .val (.int x2), .val (.int x3), .val (.int x4), .val (.int x5), .val (.int (if (x0 &&& (1 : Int32)) = 0 then 0 else 1 : Int32)), .val (.int (if (x0 &&& (2 : Int32)) = 0 then 0 else 1 : Int32)), .val (.int (if (x0 &&& (4 : Int32)) = 0 then 0 else 1 : Int32)), .val (.ref b10), .val (.int (1 : Int32)), .val (.int (0 : Int32))] [(.int (if (0 : Int64) = (1 : Int64) then 1 else 0 : Int32))])
          rw [show (if (0 : Int64) = (1 : Int64) then 1 else 0 : Int32) = (0 : Int32) from by decide]
          show Go p e below _ T169 (mkF m 171 #[.val (.int x0), .val (.int x1), .val (.int x2), .val (.int x3), .val (.int x4), .val (.int x5), .val (.int (if (x0 &&& (1 : Int32)) = 0 then 0 else 1 : Int32)), .val (.int (if (x0 &&& (2 : Int32)) = 0 then 0 else 1 : Int32)), .val (.int (if (x0 &&& (4 : Int32)) = 0 then 0 else 1 : Int32)), .val (.ref b10), .val (.int (1 : Int32)), .val (.int (0 : Int32))] [(.int (0 : Int32))])
          refine Go.iload X169 hx (hb hby at_171) rfl rfl  ?_
          refine Go.icmpNo X169 hx (hb hby at_173) rfl (teq (by decide : (0 : Int32) = (0 : Int32))).2 ?_
          refine Go.iconst X169 hx (hb hby at_176) rfl (1 : Int32) rfl ?_
          refine Go.goto X169 hx (hb hby at_177) rfl 181 (by decide) (by decide) ?_
          exact Go.retZ X169 hx (z' := (1 : Int32)) hret hlk (hb hby at_181) rfl (by decide) ⟨by first | rfl | simp [hc30, hc43, hc125], M156⟩ (Nat.le_of_ble_eq_true rfl) (Nat.le_of_ble_eq_true rfl)
        · rw [hk]
          refine Go.iload X155 hx (hb hby at_115) rfl rfl  ?_
          refine Go.ifYes X155 hx (hb hby at_117) rfl 133 ((if0 _ _).trans (feq (by decide : ¬ ((2 : Int32) = (0 : Int32)))).2) (by decide) (by decide) ?_
          refine Go.iload X155 hx (hb hby at_133) rfl rfl  ?_
          refine Go.iconst X155 hx (hb hby at_135) rfl (1 : Int32) rfl ?_
          refine Go.icmpYes X155 hx (hb hby at_136) rfl 152 (feq (by decide : ¬ ((2 : Int32) = (1 : Int32)))).2 (by decide) (by decide) ?_
          refine Go.iload X155 hx (hb hby at_152) rfl rfl  ?_
          refine Go.ifYes X155 hx (hb hby at_154) rfl 161 ((if0 _ _).trans (feq hc125).2) (by decide) (by decide) ?_
          refine Go.iconst X155 hx (hb hby at_161) rfl (0 : Int32) rfl ?_
          refine Go.istore X155 hx (hb hby at_162) rfl  #[.val (.int x0), .val (.int x1), .val (.int x2), .val (.int x3), .val (.int x4), .val (.int x5), .val (.int (if (x0 &&& (1 : Int32)) = 0 then 0 else 1 : Int32)), .val (.int (if (x0 &&& (2 : Int32)) = 0 then 0 else 1 : Int32)), .val (.int (if (x0 &&& (4 : Int32)) = 0 then 0 else 1 : Int32)), .val (.ref b10), .val (.int (2 : Int32)), .val (.int (0 : Int32))] rfl ?_
          refine Go.aload X155 hx (hb hby at_164) rfl rfl rfl ?_
          refine Go.iload X155 hx (hb hby at_166) rfl rfl  ?_
          refine Go.pureV X155 hx hZ hown (wd 66 rfl) (wd 67 rfl) (notFace_of_selects (args := #[]) (mvT hZ (wd 69 rfl))) (wd 69 rfl) (wd 68 rfl) (wd 2 rfl) (wd 70 rfl) (by decide) [(.int (2 : Int32))] [] E158 (rmD2 l Z a0 hw b10 x15a b15a g19 k15a k19 (0 : Int64) (0 : Int64) (1 : Int64) (2 : Int64) (0 : Int64) (0 : Int64) T155.heap F159 E155 Fp155 V163 Vg155) rfl rfl (by rw [hml]; rfl) pd_4 rfl (hb hby at_168) (Nat.le_of_ble_eq_true rfl) (Nat.le_of_ble_eq_true rfl) (Nat.le_of_ble_eq_true rfl) (Nat.le_of_ble_eq_true rfl) ?_
          intro T170 X170 e170
          show Go p e below _ T170 (mkF m 171 #[.val (.int x0), .val (.int x1), .val (.int x2), .val (.int x3), .val (.int x4), .val (.int x5), .val (.int (if (x0 &&& (1 : Int32)) = 0 then 0 else 1 : Int32)), .val (.int (if (x0 &&& (2 : Int32)) = 0 then 0 else 1 : Int32)), .val (.int (if (x0 &&& (4 : Int32)) = 0 then 0 else 1 : Int32)), .val (.ref b10), .val (.int (2 : Int32)), .val (.int (0 : Int32))] [(.int (if (1 : Int64) = (2 : Int64) then 1 else 0 : Int32))])
          rw [show (if (1 : Int64) = (2 : Int64) then 1 else 0 : Int32) = (0 : Int32) from by decide]
          show Go p e below _ T170 (mkF m 171 #[.val (.int x0), .val (.int x1), .val (.int x2), .val (.int x3), .val (.int x4), .val (.int x5), .val (.int (if (x0 &&& (1 : Int32)) = 0 then 0 else 1 : Int32)), .val (.int (if (x0 &&& (2 : Int32)) = 0 then 0 else 1 : Int32)), .val (.int (if (x0 &&& (4 : Int32)) = 0 then 0 else 1 : Int32)), .val (.ref b10), .val (.int (2 : Int32)), .val (.int (0 : Int32))] [(.int (0 : Int32))])
          refine Go.iload X170 hx (hb hby at_171) rfl rfl  ?_
          refine Go.icmpNo X170 hx (hb hby at_173) rfl (teq (by decide : (0 : Int32) = (0 : Int32))).2 ?_
          refine Go.iconst X170 hx (hb hby at_176) rfl (1 : Int32) rfl ?_
          refine Go.goto X170 hx (hb hby at_177) rfl 181 (by decide) (by decide) ?_
          exact Go.retZ X170 hx (z' := (1 : Int32)) hret hlk (hb hby at_181) rfl (by decide) ⟨by first | rfl | simp [hc30, hc43, hc125], M156⟩ (Nat.le_of_ble_eq_true rfl) (Nat.le_of_ble_eq_true rfl)
  · refine Go.ifNo X19 hx (hb hby at_55) rfl ((if0 _ _).trans (feq hc30).1) ?_
    refine Go.aload X19 hx (hb hby at_58) rfl rfl rfl ?_
    refine Go.iloadN X19 hx (hb hby at_60) rfl rfl  ?_
    refine Go.iloadN X19 hx (hb hby at_61) rfl rfl  ?_
    refine Go.callV X19 hx hZ hown (wd 76 rfl) (wd 77 rfl) (notFace_of_selects (args := #[]) (mvT hZ (wd 79 rfl))) (wd 79 rfl) (wd 78 rfl) (wd 2 rfl) (wd 80 rfl) (by decide) [(.int x2), (.int x3)] [] E22 (rm_addEdge_0 l Z a0 hw b10 x15b b15b k15b x2 x3 T19.heap O21 F24 E26 q_x15b ne_b10_x15b ne_b10_b15b n6_15 F27 F28 q_b15b V29 Ovb15) rfl rfl (by rw [hml]; rfl) pd_6 rfl (hb hby at_62) (Nat.le_of_ble_eq_true rfl) (Nat.le_of_ble_eq_true rfl) (Nat.le_of_ble_eq_true rfl) (Nat.le_of_ble_eq_true rfl) ?_
    rintro vv171 T171 L171 X171 Q171
    obtain ⟨rfl, N171, K171, E171, g171, k171, sz171, Fp171, Fs171, Vb171, Vg171⟩ := Q171
    have M172 := Fr.app M20 N171
    have q171 : Z.heap.size ≤ g171 := Nat.le_trans O21.2.1 sz171
    have ne_b10_g171 : b10 ≠ g171 := Nat.ne_of_lt (Nat.lt_of_lt_of_le E22.lt sz171)
    have ne_x15a_g171 : x15a ≠ g171 := Nat.ne_of_lt (Nat.lt_of_lt_of_le E19.lt sz171)
    have ne_x15b_g171 : x15b ≠ g171 := Nat.ne_of_lt (Nat.lt_of_lt_of_le E26.lt sz171)
    have ne_b15b_g171 : b15b ≠ g171 := Nat.ne_of_lt (Nat.lt_of_lt_of_le V29.lt sz171)
    have ne_b15a_g171 : b15a ≠ g171 := Nat.ne_of_lt (Nat.lt_of_lt_of_le Vb19.lt sz171)
    have ne_g19_g171 : g19 ≠ g171 := Nat.ne_of_lt (Nat.lt_of_lt_of_le Vg19.lt sz171)
    have O173 := O21.keep K171 (allS q_x15b (allS q_b15b (all0)))
    have E174 := E22.keep K171
    have F175 := F23.keep K171 (ninS ne_b10_x15b (ninS ne_b10_b15b (nin0)))
    have F176 := F24.keep K171 (ninS ne_b10_x15b (ninS ne_b10_b15b (nin0)))
    have E177 := E19.keep K171
    have E178 := E26.keep K171
    have F179 := Fp19.keep K171 (ninS n2_15 (ninS n3_15 (nin0)))
    have F180 := Fs19.keep K171 (ninS n2_15 (ninS n3_15 (nin0)))
    have V181 := Vb19.keep K171 (ninS n4_15 (ninS n5_15 (nin0)))
    have V182 := Vg19.keep K171 (ninS (Ne.symm ne_x15b_g19) (ninS (Ne.symm ne_b15b_g19) (nin0)))
    refine Go.aload X171 hx (hb hby at_65) rfl rfl rfl ?_
    refine Go.callV X171 hx hZ hown (wd 49 rfl) (wd 50 rfl) (notFace_of_selects (args := #[]) (mvT hZ (wd 52 rfl))) (wd 52 rfl) (wd 51 rfl) (wd 2 rfl) (wd 53 rfl) (by decide) [] [] E174 (rm_startEdges_1 l Z a0 hw b10 x15a b15a k15a g19 k19 (0 : Int64) (0 : Int64) (0 : Int64) (0 : Int64) (0 : Int64) (0 : Int64) x15b (1 : Int64) T171.heap O173 F175 E177 q_x15a ne_b10_x15a ne_b10_b15a n1_15 F179 F180 q19 ne_b10_g19 ne_x15a_g19 ne_b15a_g19 V181 V182 F176 E171 Fs171 (Ne.symm n2_15) (Ne.symm n4_15) ne_x15b_g19) rfl rfl (by rw [hml]; rfl) pd_0 rfl (hb hby at_67) (Nat.le_of_ble_eq_true rfl) (Nat.le_of_ble_eq_true rfl) (Nat.le_of_ble_eq_true rfl) (Nat.le_of_ble_eq_true rfl) ?_
    rintro vv183 T183 L183 X183 Q183
    obtain ⟨rfl, N183, K183, E183, Fp183, Fs183, Vb183, Vg183⟩ := Q183
    have M184 := Fr.app M172 N183
    have O185 := O173.keep K183 (allS q_x15a (allS q19 (all0)))
    have E186 := E174.keep K183
    have F187 := F175.keep K183 (ninS ne_b10_x15a (ninS ne_b10_g19 (nin0)))
    have F188 := F176.keep K183 (ninS ne_b10_x15a (ninS ne_b10_g19 (nin0)))
    have E189 := E177.keep K183
    have E190 := E171.keep K183
    have V191 := V181.keep K183 (ninS (Ne.symm n1_15) (ninS ne_b15a_g19 (nin0)))
    have F192 := Fp171.keep K183 (ninS (Ne.symm n2_15) (ninS ne_x15b_g19 (nin0)))
    have F193 := Fs171.keep K183 (ninS (Ne.symm n2_15) (ninS ne_x15b_g19 (nin0)))
    have V194 := Vb171.keep K183 (ninS (Ne.symm n3_15) (ninS ne_b15b_g19 (nin0)))
    have V195 := Vg171.keep K183 (ninS (Ne.symm ne_x15a_g171) (ninS (Ne.symm ne_g19_g171) (nin0)))
    refine Go.iload X183 hx (hb hby at_70) rfl rfl  ?_
    by_cases hc196 : (if (x0 &&& (2 : Int32)) = 0 then 0 else 1 : Int32) = (0 : Int32)
    · refine Go.ifYes X183 hx (hb hby at_72) rfl 84 ((if0 _ _).trans (teq hc196).1) (by decide) (by decide) ?_
      refine Go.aload X183 hx (hb hby at_84) rfl rfl rfl ?_
      refine Go.callV X183 hx hZ hown (wd 49 rfl) (wd 50 rfl) (notFace_of_selects (args := #[]) (mvT hZ (wd 52 rfl))) (wd 52 rfl) (wd 51 rfl) (wd 2 rfl) (wd 53 rfl) (by decide) [] [] E186 (rm_startEdges_2 l Z a0 hw b10 x15a b15a k15a g19 k19 (0 : Int64) (1 : Int64) (0 : Int64) (0 : Int64) (0 : Int64) (0 : Int64) x15b (1 : Int64) T183.heap O185 F187 E183 q_x15a ne_b10_x15a ne_b10_b15a n1_15 Fp183 Fs183 q19 ne_b10_g19 ne_x15a_g19 ne_b15a_g19 V191 Vg183 F188 E190 F193 (Ne.symm n2_15) (Ne.symm n4_15) ne_x15b_g19) rfl rfl (by rw [hml]; rfl) pd_0 rfl (hb hby at_86) (Nat.le_of_ble_eq_true rfl) (Nat.le_of_ble_eq_true rfl) (Nat.le_of_ble_eq_true rfl) (Nat.le_of_ble_eq_true rfl) ?_
      rintro vv197 T197 L197 X197 Q197
      obtain ⟨rfl, N197, K197, E197, Fp197, Fs197, Vb197, Vg197⟩ := Q197
      have M198 := Fr.app M184 N197
      have O199 := O185.keep K197 (allS q_x15a (allS q19 (all0)))
      have E200 := E186.keep K197
      have F201 := F187.keep K197 (ninS ne_b10_x15a (ninS ne_b10_g19 (nin0)))
      have F202 := F188.keep K197 (ninS ne_b10_x15a (ninS ne_b10_g19 (nin0)))
      have E203 := E183.keep K197
      have E204 := E190.keep K197
      have V205 := V191.keep K197 (ninS (Ne.symm n1_15) (ninS ne_b15a_g19 (nin0)))
      have F206 := F192.keep K197 (ninS (Ne.symm n2_15) (ninS ne_x15b_g19 (nin0)))
      have F207 := F193.keep K197 (ninS (Ne.symm n2_15) (ninS ne_x15b_g19 (nin0)))
      have V208 := V194.keep K197 (ninS (Ne.symm n3_15) (ninS ne_b15b_g19 (nin0)))
      have V209 := V195.keep K197 (ninS (Ne.symm ne_x15a_g171) (ninS (Ne.symm ne_g19_g171) (nin0)))
      refine Go.iload X197 hx (hb hby at_89) rfl rfl  ?_
      by_cases hc210 : (if (x0 &&& (4 : Int32)) = 0 then 0 else 1 : Int32) = (0 : Int32)
      · refine Go.ifYes X197 hx (hb hby at_91) rfl 102 ((if0 _ _).trans (teq hc210).1) (by decide) (by decide) ?_
        refine Go.aload X197 hx (hb hby at_102) rfl rfl rfl ?_
        refine Go.callV X197 hx hZ hown (wd 60 rfl) (wd 61 rfl) (notFace_of_selects (args := #[]) (mvT hZ (wd 63 rfl))) (wd 63 rfl) (wd 62 rfl) (wd 2 rfl) (wd 64 rfl) (by decide) [] [] E200 (rm_endEdges_3 l Z a0 hw b10 x15a b15a k15a g19 k19 (0 : Int64) (1 : Int64) (1 : Int64) (0 : Int64) (0 : Int64) (0 : Int64) x15b (1 : Int64) T197.heap O199 F201 E197 q_x15a ne_b10_x15a ne_b10_b15a n1_15 Fp197 Fs197 q19 ne_b10_g19 ne_x15a_g19 ne_b15a_g19 V205 Vg197 F202 E204 F207 (Ne.symm n2_15) (Ne.symm n4_15) ne_x15b_g19) rfl rfl (by rw [hml]; rfl) pd_0 rfl (hb hby at_104) (Nat.le_of_ble_eq_true rfl) (Nat.le_of_ble_eq_true rfl) (Nat.le_of_ble_eq_true rfl) (Nat.le_of_ble_eq_true rfl) ?_
        rintro vv211 T211 L211 X211 Q211
        obtain ⟨rfl, N211, K211, E211, Fp211, Fs211, Vb211, Vg211⟩ := Q211
        have M212 := Fr.app M198 N211
        have O213 := O199.keep K211 (allS q_x15a (allS q19 (all0)))
        have E214 := E200.keep K211
        have F215 := F201.keep K211 (ninS ne_b10_x15a (ninS ne_b10_g19 (nin0)))
        have F216 := F202.keep K211 (ninS ne_b10_x15a (ninS ne_b10_g19 (nin0)))
        have E217 := E197.keep K211
        have E218 := E204.keep K211
        have V219 := V205.keep K211 (ninS (Ne.symm n1_15) (ninS ne_b15a_g19 (nin0)))
        have F220 := F206.keep K211 (ninS (Ne.symm n2_15) (ninS ne_x15b_g19 (nin0)))
        have F221 := F207.keep K211 (ninS (Ne.symm n2_15) (ninS ne_x15b_g19 (nin0)))
        have V222 := V208.keep K211 (ninS (Ne.symm n3_15) (ninS ne_b15b_g19 (nin0)))
        have V223 := V209.keep K211 (ninS (Ne.symm ne_x15a_g171) (ninS (Ne.symm ne_g19_g171) (nin0)))
        refine Go.iloadN X211 hx (hb hby at_107) rfl rfl  ?_
        refine Go.ldc X211 hx hZ hown (wd 65 rfl) (hb hby at_108) rfl ?_
        refine Go.iand X211 hx (hb hby at_110) rfl ?_
        refine Go.iconst X211 hx (hb hby at_111) rfl (3 : Int32) rfl ?_
        refine Go.irem X211 hx (hb hby at_112) rfl (by decide) ?_
        refine Go.istore X211 hx (hb hby at_113) rfl  #[.val (.int x0), .val (.int x1), .val (.int x2), .val (.int x3), .val (.int x4), .val (.int x5), .val (.int (if (x0 &&& (1 : Int32)) = 0 then 0 else 1 : Int32)), .val (.int (if (x0 &&& (2 : Int32)) = 0 then 0 else 1 : Int32)), .val (.int (if (x0 &&& (4 : Int32)) = 0 then 0 else 1 : Int32)), .val (.ref b10), .val (.int ((x1 &&& (2147483647 : Int32)) % (3 : Int32))), .unset] rfl ?_
        rcases own_rem3 x1 with hk | hk | hk
        · rw [hk]
          refine Go.iload X211 hx (hb hby at_115) rfl rfl  ?_
          refine Go.ifNo X211 hx (hb hby at_117) rfl ((if0 _ _).trans (teq (by decide : (0 : Int32) = (0 : Int32))).2) ?_
          refine Go.iload X211 hx (hb hby at_120) rfl rfl  ?_
          refine Go.ifYes X211 hx (hb hby at_122) rfl 129 ((if0 _ _).trans (feq hc30).2) (by decide) (by decide) ?_
          refine Go.iconst X211 hx (hb hby at_129) rfl (0 : Int32) rfl ?_
          refine Go.goto X211 hx (hb hby at_130) rfl 162 (by decide) (by decide) ?_
          refine Go.istore X211 hx (hb hby at_162) rfl  #[.val (.int x0), .val (.int x1), .val (.int x2), .val (.int x3), .val (.int x4), .val (.int x5), .val (.int (if (x0 &&& (1 : Int32)) = 0 then 0 else 1 : Int32)), .val (.int (if (x0 &&& (2 : Int32)) = 0 then 0 else 1 : Int32)), .val (.int (if (x0 &&& (4 : Int32)) = 0 then 0 else 1 : Int32)), .val (.ref b10), .val (.int (0 : Int32)), .val (.int (0 : Int32))] rfl ?_
          refine Go.aload X211 hx (hb hby at_164) rfl rfl rfl ?_
          refine Go.iload X211 hx (hb hby at_166) rfl rfl  ?_
          refine Go.pureV X211 hx hZ hown (wd 66 rfl) (wd 67 rfl) (notFace_of_selects (args := #[]) (mvT hZ (wd 69 rfl))) (wd 69 rfl) (wd 68 rfl) (wd 2 rfl) (wd 70 rfl) (by decide) [(.int (0 : Int32))] [] E214 (rmD0 l Z a0 hw b10 x15a b15a g19 k15a k19 (0 : Int64) (1 : Int64) (1 : Int64) (1 : Int64) (0 : Int64) (0 : Int64) T211.heap F215 E211 Fp211 V219 Vg211) rfl rfl (by rw [hml]; rfl) pd_4 rfl (hb hby at_168) (Nat.le_of_ble_eq_true rfl) (Nat.le_of_ble_eq_true rfl) (Nat.le_of_ble_eq_true rfl) (Nat.le_of_ble_eq_true rfl) ?_
          intro T224 X224 e224
          show Go p e below _ T224 (mkF m 171 #[.val (.int x0), .val (.int x1), .val (.int x2), .val (.int x3), .val (.int x4), .val (.int x5), .val (.int (if (x0 &&& (1 : Int32)) = 0 then 0 else 1 : Int32)), .val (.int (if (x0 &&& (2 : Int32)) = 0 then 0 else 1 : Int32)), .val (.int (if (x0 &&& (4 : Int32)) = 0 then 0 else 1 : Int32)), .val (.ref b10), .val (.int (0 : Int32)), .val (.int (0 : Int32))] [(.int (if (0 : Int64) = (1 : Int64) then 1 else 0 : Int32))])
          rw [show (if (0 : Int64) = (1 : Int64) then 1 else 0 : Int32) = (0 : Int32) from by decide]
          show Go p e below _ T224 (mkF m 171 #[.val (.int x0), .val (.int x1), .val (.int x2), .val (.int x3), .val (.int x4), .val (.int x5), .val (.int (if (x0 &&& (1 : Int32)) = 0 then 0 else 1 : Int32)), .val (.int (if (x0 &&& (2 : Int32)) = 0 then 0 else 1 : Int32)), .val (.int (if (x0 &&& (4 : Int32)) = 0 then 0 else 1 : Int32)), .val (.ref b10), .val (.int (0 : Int32)), .val (.int (0 : Int32))] [(.int (0 : Int32))])
          refine Go.iload X224 hx (hb hby at_171) rfl rfl  ?_
          refine Go.icmpNo X224 hx (hb hby at_173) rfl (teq (by decide : (0 : Int32) = (0 : Int32))).2 ?_
          refine Go.iconst X224 hx (hb hby at_176) rfl (1 : Int32) rfl ?_
          refine Go.goto X224 hx (hb hby at_177) rfl 181 (by decide) (by decide) ?_
          exact Go.retZ X224 hx (z' := (1 : Int32)) hret hlk (hb hby at_181) rfl (by decide) ⟨by first | rfl | simp [hc30, hc196, hc210], M212⟩ (Nat.le_of_ble_eq_true rfl) (Nat.le_of_ble_eq_true rfl)
        · rw [hk]
          refine Go.iload X211 hx (hb hby at_115) rfl rfl  ?_
          refine Go.ifYes X211 hx (hb hby at_117) rfl 133 ((if0 _ _).trans (feq (by decide : ¬ ((1 : Int32) = (0 : Int32)))).2) (by decide) (by decide) ?_
          refine Go.iload X211 hx (hb hby at_133) rfl rfl  ?_
          refine Go.iconst X211 hx (hb hby at_135) rfl (1 : Int32) rfl ?_
          refine Go.icmpNo X211 hx (hb hby at_136) rfl (teq (by decide : (1 : Int32) = (1 : Int32))).2 ?_
          refine Go.iload X211 hx (hb hby at_139) rfl rfl  ?_
          refine Go.ifNo X211 hx (hb hby at_141) rfl ((if0 _ _).trans (teq hc196).2) ?_
          refine Go.iconst X211 hx (hb hby at_144) rfl (1 : Int32) rfl ?_
          refine Go.goto X211 hx (hb hby at_145) rfl 162 (by decide) (by decide) ?_
          refine Go.istore X211 hx (hb hby at_162) rfl  #[.val (.int x0), .val (.int x1), .val (.int x2), .val (.int x3), .val (.int x4), .val (.int x5), .val (.int (if (x0 &&& (1 : Int32)) = 0 then 0 else 1 : Int32)), .val (.int (if (x0 &&& (2 : Int32)) = 0 then 0 else 1 : Int32)), .val (.int (if (x0 &&& (4 : Int32)) = 0 then 0 else 1 : Int32)), .val (.ref b10), .val (.int (1 : Int32)), .val (.int (1 : Int32))] rfl ?_
          refine Go.aload X211 hx (hb hby at_164) rfl rfl rfl ?_
          refine Go.iload X211 hx (hb hby at_166) rfl rfl  ?_
          refine Go.pureV X211 hx hZ hown (wd 66 rfl) (wd 67 rfl) (notFace_of_selects (args := #[]) (mvT hZ (wd 69 rfl))) (wd 69 rfl) (wd 68 rfl) (wd 2 rfl) (wd 70 rfl) (by decide) [(.int (1 : Int32))] [] E214 (rmD1 l Z a0 hw b10 x15a b15a g19 k15a k19 (0 : Int64) (1 : Int64) (1 : Int64) (1 : Int64) (0 : Int64) (0 : Int64) T211.heap F215 E211 Fp211 V219 Vg211) rfl rfl (by rw [hml]; rfl) pd_4 rfl (hb hby at_168) (Nat.le_of_ble_eq_true rfl) (Nat.le_of_ble_eq_true rfl) (Nat.le_of_ble_eq_true rfl) (Nat.le_of_ble_eq_true rfl) ?_
          intro T225 X225 e225
          show Go p e below _ T225 (mkF m 171 #[.val (.int x0), .val (.int x1), .val (.int x2), .val (.int x3), .val (.int x4), .val (.int x5), .val (.int (if (x0 &&& (1 : Int32)) = 0 then 0 else 1 : Int32)), .val (.int (if (x0 &&& (2 : Int32)) = 0 then 0 else 1 : Int32)), .val (.int (if (x0 &&& (4 : Int32)) = 0 then 0 else 1 : Int32)), .val (.ref b10), .val (.int (1 : Int32)), .val (.int (1 : Int32))] [(.int (if (1 : Int64) = (1 : Int64) then 1 else 0 : Int32))])
          rw [show (if (1 : Int64) = (1 : Int64) then 1 else 0 : Int32) = (1 : Int32) from by decide]
          show Go p e below _ T225 (mkF m 171 #[.val (.int x0), .val (.int x1), .val (.int x2), .val (.int x3), .val (.int x4), .val (.int x5), .val (.int (if (x0 &&& (1 : Int32)) = 0 then 0 else 1 : Int32)), .val (.int (if (x0 &&& (2 : Int32)) = 0 then 0 else 1 : Int32)), .val (.int (if (x0 &&& (4 : Int32)) = 0 then 0 else 1 : Int32)), .val (.ref b10), .val (.int (1 : Int32)), .val (.int (1 : Int32))] [(.int (1 : Int32))])
          refine Go.iload X225 hx (hb hby at_171) rfl rfl  ?_
          refine Go.icmpNo X225 hx (hb hby at_173) rfl (teq (by decide : (1 : Int32) = (1 : Int32))).2 ?_
          refine Go.iconst X225 hx (hb hby at_176) rfl (1 : Int32) rfl ?_
          refine Go.goto X225 hx (hb hby at_177) rfl 181 (by decide) (by decide) ?_
          exact Go.retZ X225 hx (z' := (1 : Int32)) hret hlk (hb hby at_181) rfl (by decide) ⟨by first | rfl | simp [hc30, hc196, hc210], M212⟩ (Nat.le_of_ble_eq_true rfl) (Nat.le_of_ble_eq_true rfl)
        · rw [hk]
          refine Go.iload X211 hx (hb hby at_115) rfl rfl  ?_
          refine Go.ifYes X211 hx (hb hby at_117) rfl 133 ((if0 _ _).trans (feq (by decide : ¬ ((2 : Int32) = (0 : Int32)))).2) (by decide) (by decide) ?_
          refine Go.iload X211 hx (hb hby at_133) rfl rfl  ?_
          refine Go.iconst X211 hx (hb hby at_135) rfl (1 : Int32) rfl ?_
          refine Go.icmpYes X211 hx (hb hby at_136) rfl 152 (feq (by decide : ¬ ((2 : Int32) = (1 : Int32)))).2 (by decide) (by decide) ?_
          refine Go.iload X211 hx (hb hby at_152) rfl rfl  ?_
          refine Go.ifNo X211 hx (hb hby at_154) rfl ((if0 _ _).trans (teq hc210).2) ?_
          refine Go.iconst X211 hx (hb hby at_157) rfl (1 : Int32) rfl ?_
          refine Go.goto X211 hx (hb hby at_158) rfl 162 (by decide) (by decide) ?_
          refine Go.istore X211 hx (hb hby at_162) rfl  #[.val (.int x0), .val (.int x1), .val (.int x2), .val (.int x3), .val (.int x4), .val (.int x5), .val (.int (if (x0 &&& (1 : Int32)) = 0 then 0 else 1 : Int32)), .val (.int (if (x0 &&& (2 : Int32)) = 0 then 0 else 1 : Int32)), .val (.int (if (x0 &&& (4 : Int32)) = 0 then 0 else 1 : Int32)), .val (.ref b10), .val (.int (2 : Int32)), .val (.int (1 : Int32))] rfl ?_
          refine Go.aload X211 hx (hb hby at_164) rfl rfl rfl ?_
          refine Go.iload X211 hx (hb hby at_166) rfl rfl  ?_
          refine Go.pureV X211 hx hZ hown (wd 66 rfl) (wd 67 rfl) (notFace_of_selects (args := #[]) (mvT hZ (wd 69 rfl))) (wd 69 rfl) (wd 68 rfl) (wd 2 rfl) (wd 70 rfl) (by decide) [(.int (2 : Int32))] [] E214 (rmD2 l Z a0 hw b10 x15a b15a g19 k15a k19 (0 : Int64) (1 : Int64) (1 : Int64) (1 : Int64) (0 : Int64) (0 : Int64) T211.heap F215 E211 Fp211 V219 Vg211) rfl rfl (by rw [hml]; rfl) pd_4 rfl (hb hby at_168) (Nat.le_of_ble_eq_true rfl) (Nat.le_of_ble_eq_true rfl) (Nat.le_of_ble_eq_true rfl) (Nat.le_of_ble_eq_true rfl) ?_
          intro T226 X226 e226
          show Go p e below _ T226 (mkF m 171 #[.val (.int x0), .val (.int x1), .val (.int x2), .val (.int x3), .val (.int x4), .val (.int x5), .val (.int (if (x0 &&& (1 : Int32)) = 0 then 0 else 1 : Int32)), .val (.int (if (x0 &&& (2 : Int32)) = 0 then 0 else 1 : Int32)), .val (.int (if (x0 &&& (4 : Int32)) = 0 then 0 else 1 : Int32)), .val (.ref b10), .val (.int (2 : Int32)), .val (.int (1 : Int32))] [(.int (if (1 : Int64) = (1 : Int64) then 1 else 0 : Int32))])
          rw [show (if (1 : Int64) = (1 : Int64) then 1 else 0 : Int32) = (1 : Int32) from by decide]
          show Go p e below _ T226 (mkF m 171 #[.val (.int x0), .val (.int x1), .val (.int x2), .val (.int x3), .val (.int x4), .val (.int x5), .val (.int (if (x0 &&& (1 : Int32)) = 0 then 0 else 1 : Int32)), .val (.int (if (x0 &&& (2 : Int32)) = 0 then 0 else 1 : Int32)), .val (.int (if (x0 &&& (4 : Int32)) = 0 then 0 else 1 : Int32)), .val (.ref b10), .val (.int (2 : Int32)), .val (.int (1 : Int32))] [(.int (1 : Int32))])
          refine Go.iload X226 hx (hb hby at_171) rfl rfl  ?_
          refine Go.icmpNo X226 hx (hb hby at_173) rfl (teq (by decide : (1 : Int32) = (1 : Int32))).2 ?_
          refine Go.iconst X226 hx (hb hby at_176) rfl (1 : Int32) rfl ?_
          refine Go.goto X226 hx (hb hby at_177) rfl 181 (by decide) (by decide) ?_
          exact Go.retZ X226 hx (z' := (1 : Int32)) hret hlk (hb hby at_181) rfl (by decide) ⟨by first | rfl | simp [hc30, hc196, hc210], M212⟩ (Nat.le_of_ble_eq_true rfl) (Nat.le_of_ble_eq_true rfl)
      · refine Go.ifNo X197 hx (hb hby at_91) rfl ((if0 _ _).trans (feq hc210).1) ?_
        refine Go.aload X197 hx (hb hby at_94) rfl rfl rfl ?_
        refine Go.iloadN X197 hx (hb hby at_96) rfl rfl  ?_
        refine Go.iload X197 hx (hb hby at_97) rfl rfl  ?_
        refine Go.callV X197 hx hZ hown (wd 76 rfl) (wd 77 rfl) (notFace_of_selects (args := #[]) (mvT hZ (wd 79 rfl))) (wd 79 rfl) (wd 78 rfl) (wd 2 rfl) (wd 80 rfl) (by decide) [(.int x3), (.int x4)] [] E200 (rm_addEdge_1 l Z a0 hw b10 x15b b15b k15b g171 k171 ((((x2).toInt64) <<< ((32 : Int32) &&& 0x3f).toInt64) ||| (((x3).toInt64) &&& (4294967295 : Int64))) (0 : Int64) (0 : Int64) (0 : Int64) (0 : Int64) (0 : Int64) x3 x4 T197.heap O199 F202 E204 q_x15b ne_b10_x15b ne_b10_b15b n6_15 F206 F207 q171 ne_b10_g171 ne_x15b_g171 ne_b15b_g171 V208 V209) rfl rfl (by rw [hml]; rfl) pd_6 rfl (hb hby at_99) (Nat.le_of_ble_eq_true rfl) (Nat.le_of_ble_eq_true rfl) (Nat.le_of_ble_eq_true rfl) (Nat.le_of_ble_eq_true rfl) ?_
        rintro vv227 T227 L227 X227 Q227
        obtain ⟨rfl, N227, K227, E227, Fp227, Fs227, Vb227, Vg227⟩ := Q227
        have M228 := Fr.app M198 N227
        have O229 := O199.keep K227 (allS q_x15b (allS q171 (all0)))
        have E230 := E200.keep K227
        have F231 := F201.keep K227 (ninS ne_b10_x15b (ninS ne_b10_g171 (nin0)))
        have F232 := F202.keep K227 (ninS ne_b10_x15b (ninS ne_b10_g171 (nin0)))
        have E233 := E197.keep K227
        have E234 := E204.keep K227
        have V235 := V205.keep K227 (ninS n4_15 (ninS ne_b15a_g171 (nin0)))
        have V236 := V208.keep K227 (ninS (Ne.symm n6_15) (ninS ne_b15b_g171 (nin0)))
        have F237 := Fp197.keep K227 (ninS n2_15 (ninS ne_x15a_g171 (nin0)))
        have F238 := Fs197.keep K227 (ninS n2_15 (ninS ne_x15a_g171 (nin0)))
        have V239 := Vg197.keep K227 (ninS (Ne.symm ne_x15b_g19) (ninS ne_g19_g171 (nin0)))
        refine Go.aload X227 hx (hb hby at_102) rfl rfl rfl ?_
        refine Go.callV X227 hx hZ hown (wd 60 rfl) (wd 61 rfl) (notFace_of_selects (args := #[]) (mvT hZ (wd 63 rfl))) (wd 63 rfl) (wd 62 rfl) (wd 2 rfl) (wd 64 rfl) (by decide) [] [] E230 (rm_endEdges_3 l Z a0 hw b10 x15a b15a k15a g19 k19 (0 : Int64) (1 : Int64) (1 : Int64) (0 : Int64) (0 : Int64) (0 : Int64) x15b (2 : Int64) T227.heap O229 F231 E233 q_x15a ne_b10_x15a ne_b10_b15a n1_15 F237 F238 q19 ne_b10_g19 ne_x15a_g19 ne_b15a_g19 V235 V239 F232 E227 Fs227 (Ne.symm n2_15) (Ne.symm n4_15) ne_x15b_g19) rfl rfl (by rw [hml]; rfl) pd_0 rfl (hb hby at_104) (Nat.le_of_ble_eq_true rfl) (Nat.le_of_ble_eq_true rfl) (Nat.le_of_ble_eq_true rfl) (Nat.le_of_ble_eq_true rfl) ?_
        rintro vv240 T240 L240 X240 Q240
        obtain ⟨rfl, N240, K240, E240, Fp240, Fs240, Vb240, Vg240⟩ := Q240
        have M241 := Fr.app M228 N240
        have O242 := O229.keep K240 (allS q_x15a (allS q19 (all0)))
        have E243 := E230.keep K240
        have F244 := F231.keep K240 (ninS ne_b10_x15a (ninS ne_b10_g19 (nin0)))
        have F245 := F232.keep K240 (ninS ne_b10_x15a (ninS ne_b10_g19 (nin0)))
        have E246 := E233.keep K240
        have E247 := E227.keep K240
        have V248 := V235.keep K240 (ninS (Ne.symm n1_15) (ninS ne_b15a_g19 (nin0)))
        have V249 := V236.keep K240 (ninS (Ne.symm n3_15) (ninS ne_b15b_g19 (nin0)))
        have F250 := Fp227.keep K240 (ninS (Ne.symm n2_15) (ninS ne_x15b_g19 (nin0)))
        have F251 := Fs227.keep K240 (ninS (Ne.symm n2_15) (ninS ne_x15b_g19 (nin0)))
        have V252 := Vg227.keep K240 (ninS (Ne.symm ne_x15a_g171) (ninS (Ne.symm ne_g19_g171) (nin0)))
        refine Go.iloadN X240 hx (hb hby at_107) rfl rfl  ?_
        refine Go.ldc X240 hx hZ hown (wd 65 rfl) (hb hby at_108) rfl ?_
        refine Go.iand X240 hx (hb hby at_110) rfl ?_
        refine Go.iconst X240 hx (hb hby at_111) rfl (3 : Int32) rfl ?_
        refine Go.irem X240 hx (hb hby at_112) rfl (by decide) ?_
        refine Go.istore X240 hx (hb hby at_113) rfl  #[.val (.int x0), .val (.int x1), .val (.int x2), .val (.int x3), .val (.int x4), .val (.int x5), .val (.int (if (x0 &&& (1 : Int32)) = 0 then 0 else 1 : Int32)), .val (.int (if (x0 &&& (2 : Int32)) = 0 then 0 else 1 : Int32)), .val (.int (if (x0 &&& (4 : Int32)) = 0 then 0 else 1 : Int32)), .val (.ref b10), .val (.int ((x1 &&& (2147483647 : Int32)) % (3 : Int32))), .unset] rfl ?_
        rcases own_rem3 x1 with hk | hk | hk
        · rw [hk]
          refine Go.iload X240 hx (hb hby at_115) rfl rfl  ?_
          refine Go.ifNo X240 hx (hb hby at_117) rfl ((if0 _ _).trans (teq (by decide : (0 : Int32) = (0 : Int32))).2) ?_
          refine Go.iload X240 hx (hb hby at_120) rfl rfl  ?_
          refine Go.ifYes X240 hx (hb hby at_122) rfl 129 ((if0 _ _).trans (feq hc30).2) (by decide) (by decide) ?_
          refine Go.iconst X240 hx (hb hby at_129) rfl (0 : Int32) rfl ?_
          refine Go.goto X240 hx (hb hby at_130) rfl 162 (by decide) (by decide) ?_
          refine Go.istore X240 hx (hb hby at_162) rfl  #[.val (.int x0), .val (.int x1), .val (.int x2), .val (.int x3), .val (.int x4), .val (.int x5), .val (.int (if (x0 &&& (1 : Int32)) = 0 then 0 else 1 : Int32)), .val (.int (if (x0 &&& (2 : Int32)) = 0 then 0 else 1 : Int32)), .val (.int (if (x0 &&& (4 : Int32)) = 0 then 0 else 1 : Int32)), .val (.ref b10), .val (.int (0 : Int32)), .val (.int (0 : Int32))] rfl ?_
          refine Go.aload X240 hx (hb hby at_164) rfl rfl rfl ?_
          refine Go.iload X240 hx (hb hby at_166) rfl rfl  ?_
          refine Go.pureV X240 hx hZ hown (wd 66 rfl) (wd 67 rfl) (notFace_of_selects (args := #[]) (mvT hZ (wd 69 rfl))) (wd 69 rfl) (wd 68 rfl) (wd 2 rfl) (wd 70 rfl) (by decide) [(.int (0 : Int32))] [] E243 (rmD0 l Z a0 hw b10 x15a b15a g19 k15a k19 (0 : Int64) (1 : Int64) (1 : Int64) (2 : Int64) (0 : Int64) (0 : Int64) T240.heap F244 E240 Fp240 V248 Vg240) rfl rfl (by rw [hml]; rfl) pd_4 rfl (hb hby at_168) (Nat.le_of_ble_eq_true rfl) (Nat.le_of_ble_eq_true rfl) (Nat.le_of_ble_eq_true rfl) (Nat.le_of_ble_eq_true rfl) ?_
          intro T253 X253 e253
          show Go p e below _ T253 (mkF m 171 #[.val (.int x0), .val (.int x1), .val (.int x2), .val (.int x3), .val (.int x4), .val (.int x5), .val (.int (if (x0 &&& (1 : Int32)) = 0 then 0 else 1 : Int32)), .val (.int (if (x0 &&& (2 : Int32)) = 0 then 0 else 1 : Int32)), .val (.int (if (x0 &&& (4 : Int32)) = 0 then 0 else 1 : Int32)), .val (.ref b10), .val (.int (0 : Int32)), .val (.int (0 : Int32))] [(.int (if (0 : Int64) = (1 : Int64) then 1 else 0 : Int32))])
          rw [show (if (0 : Int64) = (1 : Int64) then 1 else 0 : Int32) = (0 : Int32) from by decide]
          show Go p e below _ T253 (mkF m 171 #[.val (.int x0), .val (.int x1), .val (.int x2), .val (.int x3), .val (.int x4), .val (.int x5), .val (.int (if (x0 &&& (1 : Int32)) = 0 then 0 else 1 : Int32)), .val (.int (if (x0 &&& (2 : Int32)) = 0 then 0 else 1 : Int32)), .val (.int (if (x0 &&& (4 : Int32)) = 0 then 0 else 1 : Int32)), .val (.ref b10), .val (.int (0 : Int32)), .val (.int (0 : Int32))] [(.int (0 : Int32))])
          refine Go.iload X253 hx (hb hby at_171) rfl rfl  ?_
          refine Go.icmpNo X253 hx (hb hby at_173) rfl (teq (by decide : (0 : Int32) = (0 : Int32))).2 ?_
          refine Go.iconst X253 hx (hb hby at_176) rfl (1 : Int32) rfl ?_
          refine Go.goto X253 hx (hb hby at_177) rfl 181 (by decide) (by decide) ?_
          exact Go.retZ X253 hx (z' := (1 : Int32)) hret hlk (hb hby at_181) rfl (by decide) ⟨by first | rfl | simp [hc30, hc196, hc210], M241⟩ (Nat.le_of_ble_eq_true rfl) (Nat.le_of_ble_eq_true rfl)
        · rw [hk]
          refine Go.iload X240 hx (hb hby at_115) rfl rfl  ?_
          refine Go.ifYes X240 hx (hb hby at_117) rfl 133 ((if0 _ _).trans (feq (by decide : ¬ ((1 : Int32) = (0 : Int32)))).2) (by decide) (by decide) ?_
          refine Go.iload X240 hx (hb hby at_133) rfl rfl  ?_
          refine Go.iconst X240 hx (hb hby at_135) rfl (1 : Int32) rfl ?_
          refine Go.icmpNo X240 hx (hb hby at_136) rfl (teq (by decide : (1 : Int32) = (1 : Int32))).2 ?_
          refine Go.iload X240 hx (hb hby at_139) rfl rfl  ?_
          refine Go.ifNo X240 hx (hb hby at_141) rfl ((if0 _ _).trans (teq hc196).2) ?_
          refine Go.iconst X240 hx (hb hby at_144) rfl (1 : Int32) rfl ?_
          refine Go.goto X240 hx (hb hby at_145) rfl 162 (by decide) (by decide) ?_
          refine Go.istore X240 hx (hb hby at_162) rfl  #[.val (.int x0), .val (.int x1), .val (.int x2), .val (.int x3), .val (.int x4), .val (.int x5), .val (.int (if (x0 &&& (1 : Int32)) = 0 then 0 else 1 : Int32)), .val (.int (if (x0 &&& (2 : Int32)) = 0 then 0 else 1 : Int32)), .val (.int (if (x0 &&& (4 : Int32)) = 0 then 0 else 1 : Int32)), .val (.ref b10), .val (.int (1 : Int32)), .val (.int (1 : Int32))] rfl ?_
          refine Go.aload X240 hx (hb hby at_164) rfl rfl rfl ?_
          refine Go.iload X240 hx (hb hby at_166) rfl rfl  ?_
          refine Go.pureV X240 hx hZ hown (wd 66 rfl) (wd 67 rfl) (notFace_of_selects (args := #[]) (mvT hZ (wd 69 rfl))) (wd 69 rfl) (wd 68 rfl) (wd 2 rfl) (wd 70 rfl) (by decide) [(.int (1 : Int32))] [] E243 (rmD1 l Z a0 hw b10 x15a b15a g19 k15a k19 (0 : Int64) (1 : Int64) (1 : Int64) (2 : Int64) (0 : Int64) (0 : Int64) T240.heap F244 E240 Fp240 V248 Vg240) rfl rfl (by rw [hml]; rfl) pd_4 rfl (hb hby at_168) (Nat.le_of_ble_eq_true rfl) (Nat.le_of_ble_eq_true rfl) (Nat.le_of_ble_eq_true rfl) (Nat.le_of_ble_eq_true rfl) ?_
          intro T254 X254 e254
          show Go p e below _ T254 (mkF m 171 #[.val (.int x0), .val (.int x1), .val (.int x2), .val (.int x3), .val (.int x4), .val (.int x5), .val (.int (if (x0 &&& (1 : Int32)) = 0 then 0 else 1 : Int32)), .val (.int (if (x0 &&& (2 : Int32)) = 0 then 0 else 1 : Int32)), .val (.int (if (x0 &&& (4 : Int32)) = 0 then 0 else 1 : Int32)), .val (.ref b10), .val (.int (1 : Int32)), .val (.int (1 : Int32))] [(.int (if (1 : Int64) = (1 : Int64) then 1 else 0 : Int32))])
          rw [show (if (1 : Int64) = (1 : Int64) then 1 else 0 : Int32) = (1 : Int32) from by decide]
          show Go p e below _ T254 (mkF m 171 #[.val (.int x0), .val (.int x1), .val (.int x2), .val (.int x3), .val (.int x4), .val (.int x5), .val (.int (if (x0 &&& (1 : Int32)) = 0 then 0 else 1 : Int32)), .val (.int (if (x0 &&& (2 : Int32)) = 0 then 0 else 1 : Int32)), .val (.int (if (x0 &&& (4 : Int32)) = 0 then 0 else 1 : Int32)), .val (.ref b10), .val (.int (1 : Int32)), .val (.int (1 : Int32))] [(.int (1 : Int32))])
          refine Go.iload X254 hx (hb hby at_171) rfl rfl  ?_
          refine Go.icmpNo X254 hx (hb hby at_173) rfl (teq (by decide : (1 : Int32) = (1 : Int32))).2 ?_
          refine Go.iconst X254 hx (hb hby at_176) rfl (1 : Int32) rfl ?_
          refine Go.goto X254 hx (hb hby at_177) rfl 181 (by decide) (by decide) ?_
          exact Go.retZ X254 hx (z' := (1 : Int32)) hret hlk (hb hby at_181) rfl (by decide) ⟨by first | rfl | simp [hc30, hc196, hc210], M241⟩ (Nat.le_of_ble_eq_true rfl) (Nat.le_of_ble_eq_true rfl)
        · rw [hk]
          refine Go.iload X240 hx (hb hby at_115) rfl rfl  ?_
          refine Go.ifYes X240 hx (hb hby at_117) rfl 133 ((if0 _ _).trans (feq (by decide : ¬ ((2 : Int32) = (0 : Int32)))).2) (by decide) (by decide) ?_
          refine Go.iload X240 hx (hb hby at_133) rfl rfl  ?_
          refine Go.iconst X240 hx (hb hby at_135) rfl (1 : Int32) rfl ?_
          refine Go.icmpYes X240 hx (hb hby at_136) rfl 152 (feq (by decide : ¬ ((2 : Int32) = (1 : Int32)))).2 (by decide) (by decide) ?_
          refine Go.iload X240 hx (hb hby at_152) rfl rfl  ?_
          refine Go.ifYes X240 hx (hb hby at_154) rfl 161 ((if0 _ _).trans (feq hc210).2) (by decide) (by decide) ?_
          refine Go.iconst X240 hx (hb hby at_161) rfl (0 : Int32) rfl ?_
          refine Go.istore X240 hx (hb hby at_162) rfl  #[.val (.int x0), .val (.int x1), .val (.int x2), .val (.int x3), .val (.int x4), .val (.int x5), .val (.int (if (x0 &&& (1 : Int32)) = 0 then 0 else 1 : Int32)), .val (.int (if (x0 &&& (2 : Int32)) = 0 then 0 else 1 : Int32)), .val (.int (if (x0 &&& (4 : Int32)) = 0 then 0 else 1 : Int32)), .val (.ref b10), .val (.int (2 : Int32)), .val (.int (0 : Int32))] rfl ?_
          refine Go.aload X240 hx (hb hby at_164) rfl rfl rfl ?_
          refine Go.iload X240 hx (hb hby at_166) rfl rfl  ?_
          refine Go.pureV X240 hx hZ hown (wd 66 rfl) (wd 67 rfl) (notFace_of_selects (args := #[]) (mvT hZ (wd 69 rfl))) (wd 69 rfl) (wd 68 rfl) (wd 2 rfl) (wd 70 rfl) (by decide) [(.int (2 : Int32))] [] E243 (rmD2 l Z a0 hw b10 x15a b15a g19 k15a k19 (0 : Int64) (1 : Int64) (1 : Int64) (2 : Int64) (0 : Int64) (0 : Int64) T240.heap F244 E240 Fp240 V248 Vg240) rfl rfl (by rw [hml]; rfl) pd_4 rfl (hb hby at_168) (Nat.le_of_ble_eq_true rfl) (Nat.le_of_ble_eq_true rfl) (Nat.le_of_ble_eq_true rfl) (Nat.le_of_ble_eq_true rfl) ?_
          intro T255 X255 e255
          show Go p e below _ T255 (mkF m 171 #[.val (.int x0), .val (.int x1), .val (.int x2), .val (.int x3), .val (.int x4), .val (.int x5), .val (.int (if (x0 &&& (1 : Int32)) = 0 then 0 else 1 : Int32)), .val (.int (if (x0 &&& (2 : Int32)) = 0 then 0 else 1 : Int32)), .val (.int (if (x0 &&& (4 : Int32)) = 0 then 0 else 1 : Int32)), .val (.ref b10), .val (.int (2 : Int32)), .val (.int (0 : Int32))] [(.int (if (1 : Int64) = (2 : Int64) then 1 else 0 : Int32))])
          rw [show (if (1 : Int64) = (2 : Int64) then 1 else 0 : Int32) = (0 : Int32) from by decide]
          show Go p e below _ T255 (mkF m 171 #[.val (.int x0), .val (.int x1), .val (.int x2), .val (.int x3), .val (.int x4), .val (.int x5), .val (.int (if (x0 &&& (1 : Int32)) = 0 then 0 else 1 : Int32)), .val (.int (if (x0 &&& (2 : Int32)) = 0 then 0 else 1 : Int32)), .val (.int (if (x0 &&& (4 : Int32)) = 0 then 0 else 1 : Int32)), .val (.ref b10), .val (.int (2 : Int32)), .val (.int (0 : Int32))] [(.int (0 : Int32))])
          refine Go.iload X255 hx (hb hby at_171) rfl rfl  ?_
          refine Go.icmpNo X255 hx (hb hby at_173) rfl (teq (by decide : (0 : Int32) = (0 : Int32))).2 ?_
          refine Go.iconst X255 hx (hb hby at_176) rfl (1 : Int32) rfl ?_
          refine Go.goto X255 hx (hb hby at_177) rfl 181 (by decide) (by decide) ?_
          exact Go.retZ X255 hx (z' := (1 : Int32)) hret hlk (hb hby at_181) rfl (by decide) ⟨by first | rfl | simp [hc30, hc196, hc210], M241⟩ (Nat.le_of_ble_eq_true rfl) (Nat.le_of_ble_eq_true rfl)
    · refine Go.ifNo X183 hx (hb hby at_72) rfl ((if0 _ _).trans (feq hc196).1) ?_
      refine Go.aload X183 hx (hb hby at_75) rfl rfl rfl ?_
      refine Go.iload X183 hx (hb hby at_77) rfl rfl  ?_
      refine Go.iload X183 hx (hb hby at_79) rfl rfl  ?_
      refine Go.callV X183 hx hZ hown (wd 76 rfl) (wd 77 rfl) (notFace_of_selects (args := #[]) (mvT hZ (wd 79 rfl))) (wd 79 rfl) (wd 78 rfl) (wd 2 rfl) (wd 80 rfl) (by decide) [(.int x4), (.int x5)] [] E186 (rm_addEdge_1 l Z a0 hw b10 x15b b15b k15b g171 k171 ((((x2).toInt64) <<< ((32 : Int32) &&& 0x3f).toInt64) ||| (((x3).toInt64) &&& (4294967295 : Int64))) (0 : Int64) (0 : Int64) (0 : Int64) (0 : Int64) (0 : Int64) x4 x5 T183.heap O185 F188 E190 q_x15b ne_b10_x15b ne_b10_b15b n6_15 F192 F193 q171 ne_b10_g171 ne_x15b_g171 ne_b15b_g171 V194 V195) rfl rfl (by rw [hml]; rfl) pd_6 rfl (hb hby at_81) (Nat.le_of_ble_eq_true rfl) (Nat.le_of_ble_eq_true rfl) (Nat.le_of_ble_eq_true rfl) (Nat.le_of_ble_eq_true rfl) ?_
      rintro vv256 T256 L256 X256 Q256
      obtain ⟨rfl, N256, K256, E256, Fp256, Fs256, Vb256, Vg256⟩ := Q256
      have M257 := Fr.app M184 N256
      have O258 := O185.keep K256 (allS q_x15b (allS q171 (all0)))
      have E259 := E186.keep K256
      have F260 := F187.keep K256 (ninS ne_b10_x15b (ninS ne_b10_g171 (nin0)))
      have F261 := F188.keep K256 (ninS ne_b10_x15b (ninS ne_b10_g171 (nin0)))
      have E262 := E183.keep K256
      have E263 := E190.keep K256
      have V264 := V191.keep K256 (ninS n4_15 (ninS ne_b15a_g171 (nin0)))
      have V265 := V194.keep K256 (ninS (Ne.symm n6_15) (ninS ne_b15b_g171 (nin0)))
      have F266 := Fp183.keep K256 (ninS n2_15 (ninS ne_x15a_g171 (nin0)))
      have F267 := Fs183.keep K256 (ninS n2_15 (ninS ne_x15a_g171 (nin0)))
      have V268 := Vg183.keep K256 (ninS (Ne.symm ne_x15b_g19) (ninS ne_g19_g171 (nin0)))
      refine Go.aload X256 hx (hb hby at_84) rfl rfl rfl ?_
      refine Go.callV X256 hx hZ hown (wd 49 rfl) (wd 50 rfl) (notFace_of_selects (args := #[]) (mvT hZ (wd 52 rfl))) (wd 52 rfl) (wd 51 rfl) (wd 2 rfl) (wd 53 rfl) (by decide) [] [] E259 (rm_startEdges_2 l Z a0 hw b10 x15a b15a k15a g19 k19 (0 : Int64) (1 : Int64) (0 : Int64) (0 : Int64) (0 : Int64) (0 : Int64) x15b (2 : Int64) T256.heap O258 F260 E262 q_x15a ne_b10_x15a ne_b10_b15a n1_15 F266 F267 q19 ne_b10_g19 ne_x15a_g19 ne_b15a_g19 V264 V268 F261 E256 Fs256 (Ne.symm n2_15) (Ne.symm n4_15) ne_x15b_g19) rfl rfl (by rw [hml]; rfl) pd_0 rfl (hb hby at_86) (Nat.le_of_ble_eq_true rfl) (Nat.le_of_ble_eq_true rfl) (Nat.le_of_ble_eq_true rfl) (Nat.le_of_ble_eq_true rfl) ?_
      rintro vv269 T269 L269 X269 Q269
      obtain ⟨rfl, N269, K269, E269, Fp269, Fs269, Vb269, Vg269⟩ := Q269
      have M270 := Fr.app M257 N269
      have O271 := O258.keep K269 (allS q_x15a (allS q19 (all0)))
      have E272 := E259.keep K269
      have F273 := F260.keep K269 (ninS ne_b10_x15a (ninS ne_b10_g19 (nin0)))
      have F274 := F261.keep K269 (ninS ne_b10_x15a (ninS ne_b10_g19 (nin0)))
      have E275 := E262.keep K269
      have E276 := E256.keep K269
      have V277 := V264.keep K269 (ninS (Ne.symm n1_15) (ninS ne_b15a_g19 (nin0)))
      have V278 := V265.keep K269 (ninS (Ne.symm n3_15) (ninS ne_b15b_g19 (nin0)))
      have F279 := Fp256.keep K269 (ninS (Ne.symm n2_15) (ninS ne_x15b_g19 (nin0)))
      have F280 := Fs256.keep K269 (ninS (Ne.symm n2_15) (ninS ne_x15b_g19 (nin0)))
      have V281 := Vg256.keep K269 (ninS (Ne.symm ne_x15a_g171) (ninS (Ne.symm ne_g19_g171) (nin0)))
      refine Go.iload X269 hx (hb hby at_89) rfl rfl  ?_
      by_cases hc282 : (if (x0 &&& (4 : Int32)) = 0 then 0 else 1 : Int32) = (0 : Int32)
      · refine Go.ifYes X269 hx (hb hby at_91) rfl 102 ((if0 _ _).trans (teq hc282).1) (by decide) (by decide) ?_
        refine Go.aload X269 hx (hb hby at_102) rfl rfl rfl ?_
        refine Go.callV X269 hx hZ hown (wd 60 rfl) (wd 61 rfl) (notFace_of_selects (args := #[]) (mvT hZ (wd 63 rfl))) (wd 63 rfl) (wd 62 rfl) (wd 2 rfl) (wd 64 rfl) (by decide) [] [] E272 (rm_endEdges_3 l Z a0 hw b10 x15a b15a k15a g19 k19 (0 : Int64) (1 : Int64) (2 : Int64) (0 : Int64) (0 : Int64) (0 : Int64) x15b (2 : Int64) T269.heap O271 F273 E269 q_x15a ne_b10_x15a ne_b10_b15a n1_15 Fp269 Fs269 q19 ne_b10_g19 ne_x15a_g19 ne_b15a_g19 V277 Vg269 F274 E276 F280 (Ne.symm n2_15) (Ne.symm n4_15) ne_x15b_g19) rfl rfl (by rw [hml]; rfl) pd_0 rfl (hb hby at_104) (Nat.le_of_ble_eq_true rfl) (Nat.le_of_ble_eq_true rfl) (Nat.le_of_ble_eq_true rfl) (Nat.le_of_ble_eq_true rfl) ?_
        rintro vv283 T283 L283 X283 Q283
        obtain ⟨rfl, N283, K283, E283, Fp283, Fs283, Vb283, Vg283⟩ := Q283
        have M284 := Fr.app M270 N283
        have O285 := O271.keep K283 (allS q_x15a (allS q19 (all0)))
        have E286 := E272.keep K283
        have F287 := F273.keep K283 (ninS ne_b10_x15a (ninS ne_b10_g19 (nin0)))
        have F288 := F274.keep K283 (ninS ne_b10_x15a (ninS ne_b10_g19 (nin0)))
        have E289 := E269.keep K283
        have E290 := E276.keep K283
        have V291 := V277.keep K283 (ninS (Ne.symm n1_15) (ninS ne_b15a_g19 (nin0)))
        have V292 := V278.keep K283 (ninS (Ne.symm n3_15) (ninS ne_b15b_g19 (nin0)))
        have F293 := F279.keep K283 (ninS (Ne.symm n2_15) (ninS ne_x15b_g19 (nin0)))
        have F294 := F280.keep K283 (ninS (Ne.symm n2_15) (ninS ne_x15b_g19 (nin0)))
        have V295 := V281.keep K283 (ninS (Ne.symm ne_x15a_g171) (ninS (Ne.symm ne_g19_g171) (nin0)))
        refine Go.iloadN X283 hx (hb hby at_107) rfl rfl  ?_
        refine Go.ldc X283 hx hZ hown (wd 65 rfl) (hb hby at_108) rfl ?_
        refine Go.iand X283 hx (hb hby at_110) rfl ?_
        refine Go.iconst X283 hx (hb hby at_111) rfl (3 : Int32) rfl ?_
        refine Go.irem X283 hx (hb hby at_112) rfl (by decide) ?_
        refine Go.istore X283 hx (hb hby at_113) rfl  #[.val (.int x0), .val (.int x1), .val (.int x2), .val (.int x3), .val (.int x4), .val (.int x5), .val (.int (if (x0 &&& (1 : Int32)) = 0 then 0 else 1 : Int32)), .val (.int (if (x0 &&& (2 : Int32)) = 0 then 0 else 1 : Int32)), .val (.int (if (x0 &&& (4 : Int32)) = 0 then 0 else 1 : Int32)), .val (.ref b10), .val (.int ((x1 &&& (2147483647 : Int32)) % (3 : Int32))), .unset] rfl ?_
        rcases own_rem3 x1 with hk | hk | hk
        · rw [hk]
          refine Go.iload X283 hx (hb hby at_115) rfl rfl  ?_
          refine Go.ifNo X283 hx (hb hby at_117) rfl ((if0 _ _).trans (teq (by decide : (0 : Int32) = (0 : Int32))).2) ?_
          refine Go.iload X283 hx (hb hby at_120) rfl rfl  ?_
          refine Go.ifYes X283 hx (hb hby at_122) rfl 129 ((if0 _ _).trans (feq hc30).2) (by decide) (by decide) ?_
          refine Go.iconst X283 hx (hb hby at_129) rfl (0 : Int32) rfl ?_
          refine Go.goto X283 hx (hb hby at_130) rfl 162 (by decide) (by decide) ?_
          refine Go.istore X283 hx (hb hby at_162) rfl  #[.val (.int x0), .val (.int x1), .val (.int x2), .val (.int x3), .val (.int x4), .val (.int x5), .val (.int (if (x0 &&& (1 : Int32)) = 0 then 0 else 1 : Int32)), .val (.int (if (x0 &&& (2 : Int32)) = 0 then 0 else 1 : Int32)), .val (.int (if (x0 &&& (4 : Int32)) = 0 then 0 else 1 : Int32)), .val (.ref b10), .val (.int (0 : Int32)), .val (.int (0 : Int32))] rfl ?_
          refine Go.aload X283 hx (hb hby at_164) rfl rfl rfl ?_
          refine Go.iload X283 hx (hb hby at_166) rfl rfl  ?_
          refine Go.pureV X283 hx hZ hown (wd 66 rfl) (wd 67 rfl) (notFace_of_selects (args := #[]) (mvT hZ (wd 69 rfl))) (wd 69 rfl) (wd 68 rfl) (wd 2 rfl) (wd 70 rfl) (by decide) [(.int (0 : Int32))] [] E286 (rmD0 l Z a0 hw b10 x15a b15a g19 k15a k19 (0 : Int64) (1 : Int64) (2 : Int64) (2 : Int64) (0 : Int64) (0 : Int64) T283.heap F287 E283 Fp283 V291 Vg283) rfl rfl (by rw [hml]; rfl) pd_4 rfl (hb hby at_168) (Nat.le_of_ble_eq_true rfl) (Nat.le_of_ble_eq_true rfl) (Nat.le_of_ble_eq_true rfl) (Nat.le_of_ble_eq_true rfl) ?_
          intro T296 X296 e296
          show Go p e below _ T296 (mkF m 171 #[.val (.int x0), .val (.int x1), .val (.int x2), .val (.int x3), .val (.int x4), .val (.int x5), .val (.int (if (x0 &&& (1 : Int32)) = 0 then 0 else 1 : Int32)), .val (.int (if (x0 &&& (2 : Int32)) = 0 then 0 else 1 : Int32)), .val (.int (if (x0 &&& (4 : Int32)) = 0 then 0 else 1 : Int32)), .val (.ref b10), .val (.int (0 : Int32)), .val (.int (0 : Int32))] [(.int (if (0 : Int64) = (1 : Int64) then 1 else 0 : Int32))])
          rw [show (if (0 : Int64) = (1 : Int64) then 1 else 0 : Int32) = (0 : Int32) from by decide]
          show Go p e below _ T296 (mkF m 171 #[.val (.int x0), .val (.int x1), .val (.int x2), .val (.int x3), .val (.int x4), .val (.int x5), .val (.int (if (x0 &&& (1 : Int32)) = 0 then 0 else 1 : Int32)), .val (.int (if (x0 &&& (2 : Int32)) = 0 then 0 else 1 : Int32)), .val (.int (if (x0 &&& (4 : Int32)) = 0 then 0 else 1 : Int32)), .val (.ref b10), .val (.int (0 : Int32)), .val (.int (0 : Int32))] [(.int (0 : Int32))])
          refine Go.iload X296 hx (hb hby at_171) rfl rfl  ?_
          refine Go.icmpNo X296 hx (hb hby at_173) rfl (teq (by decide : (0 : Int32) = (0 : Int32))).2 ?_
          refine Go.iconst X296 hx (hb hby at_176) rfl (1 : Int32) rfl ?_
          refine Go.goto X296 hx (hb hby at_177) rfl 181 (by decide) (by decide) ?_
          exact Go.retZ X296 hx (z' := (1 : Int32)) hret hlk (hb hby at_181) rfl (by decide) ⟨by first | rfl | simp [hc30, hc196, hc282], M284⟩ (Nat.le_of_ble_eq_true rfl) (Nat.le_of_ble_eq_true rfl)
        · rw [hk]
          refine Go.iload X283 hx (hb hby at_115) rfl rfl  ?_
          refine Go.ifYes X283 hx (hb hby at_117) rfl 133 ((if0 _ _).trans (feq (by decide : ¬ ((1 : Int32) = (0 : Int32)))).2) (by decide) (by decide) ?_
          refine Go.iload X283 hx (hb hby at_133) rfl rfl  ?_
          refine Go.iconst X283 hx (hb hby at_135) rfl (1 : Int32) rfl ?_
          refine Go.icmpNo X283 hx (hb hby at_136) rfl (teq (by decide : (1 : Int32) = (1 : Int32))).2 ?_
          refine Go.iload X283 hx (hb hby at_139) rfl rfl  ?_
          refine Go.ifYes X283 hx (hb hby at_141) rfl 148 ((if0 _ _).trans (feq hc196).2) (by decide) (by decide) ?_
          refine Go.iconst X283 hx (hb hby at_148) rfl (0 : Int32) rfl ?_
          refine Go.goto X283 hx (hb hby at_149) rfl 162 (by decide) (by decide) ?_
          refine Go.istore X283 hx (hb hby at_162) rfl  #[.val (.int x0), .val (.int x1), .val (.int x2), .val (.int x3), .val (.int x4), .val (.int x5), .val (.int (if (x0 &&& (1 : Int32)) = 0 then 0 else 1 : Int32)), .val (.int (if (x0 &&& (2 : Int32)) = 0 then 0 else 1 : Int32)), .val (.int (if (x0 &&& (4 : Int32)) = 0 then 0 else 1 : Int32)), .val (.ref b10), .val (.int (1 : Int32)), .val (.int (0 : Int32))] rfl ?_
          refine Go.aload X283 hx (hb hby at_164) rfl rfl rfl ?_
          refine Go.iload X283 hx (hb hby at_166) rfl rfl  ?_
          refine Go.pureV X283 hx hZ hown (wd 66 rfl) (wd 67 rfl) (notFace_of_selects (args := #[]) (mvT hZ (wd 69 rfl))) (wd 69 rfl) (wd 68 rfl) (wd 2 rfl) (wd 70 rfl) (by decide) [(.int (1 : Int32))] [] E286 (rmD1 l Z a0 hw b10 x15a b15a g19 k15a k19 (0 : Int64) (1 : Int64) (2 : Int64) (2 : Int64) (0 : Int64) (0 : Int64) T283.heap F287 E283 Fp283 V291 Vg283) rfl rfl (by rw [hml]; rfl) pd_4 rfl (hb hby at_168) (Nat.le_of_ble_eq_true rfl) (Nat.le_of_ble_eq_true rfl) (Nat.le_of_ble_eq_true rfl) (Nat.le_of_ble_eq_true rfl) ?_
          intro T297 X297 e297
          show Go p e below _ T297 (mkF m 171 #[.val (.int x0), .val (.int x1), .val (.int x2), .val (.int x3), .val (.int x4), .val (.int x5), .val (.int (if (x0 &&& (1 : Int32)) = 0 then 0 else 1 : Int32)), .val (.int (if (x0 &&& (2 : Int32)) = 0 then 0 else 1 : Int32)), .val (.int (if (x0 &&& (4 : Int32)) = 0 then 0 else 1 : Int32)), .val (.ref b10), .val (.int (1 : Int32)), .val (.int (0 : Int32))] [(.int (if (1 : Int64) = (2 : Int64) then 1 else 0 : Int32))])
          rw [show (if (1 : Int64) = (2 : Int64) then 1 else 0 : Int32) = (0 : Int32) from by decide]
          show Go p e below _ T297 (mkF m 171 #[.val (.int x0), .val (.int x1), .val (.int x2), .val (.int x3), .val (.int x4), .val (.int x5), .val (.int (if (x0 &&& (1 : Int32)) = 0 then 0 else 1 : Int32)), .val (.int (if (x0 &&& (2 : Int32)) = 0 then 0 else 1 : Int32)), .val (.int (if (x0 &&& (4 : Int32)) = 0 then 0 else 1 : Int32)), .val (.ref b10), .val (.int (1 : Int32)), .val (.int (0 : Int32))] [(.int (0 : Int32))])
          refine Go.iload X297 hx (hb hby at_171) rfl rfl  ?_
          refine Go.icmpNo X297 hx (hb hby at_173) rfl (teq (by decide : (0 : Int32) = (0 : Int32))).2 ?_
          refine Go.iconst X297 hx (hb hby at_176) rfl (1 : Int32) rfl ?_
          refine Go.goto X297 hx (hb hby at_177) rfl 181 (by decide) (by decide) ?_
          exact Go.retZ X297 hx (z' := (1 : Int32)) hret hlk (hb hby at_181) rfl (by decide) ⟨by first | rfl | simp [hc30, hc196, hc282], M284⟩ (Nat.le_of_ble_eq_true rfl) (Nat.le_of_ble_eq_true rfl)
        · rw [hk]
          refine Go.iload X283 hx (hb hby at_115) rfl rfl  ?_
          refine Go.ifYes X283 hx (hb hby at_117) rfl 133 ((if0 _ _).trans (feq (by decide : ¬ ((2 : Int32) = (0 : Int32)))).2) (by decide) (by decide) ?_
          refine Go.iload X283 hx (hb hby at_133) rfl rfl  ?_
          refine Go.iconst X283 hx (hb hby at_135) rfl (1 : Int32) rfl ?_
          refine Go.icmpYes X283 hx (hb hby at_136) rfl 152 (feq (by decide : ¬ ((2 : Int32) = (1 : Int32)))).2 (by decide) (by decide) ?_
          refine Go.iload X283 hx (hb hby at_152) rfl rfl  ?_
          refine Go.ifNo X283 hx (hb hby at_154) rfl ((if0 _ _).trans (teq hc282).2) ?_
          refine Go.iconst X283 hx (hb hby at_157) rfl (1 : Int32) rfl ?_
          refine Go.goto X283 hx (hb hby at_158) rfl 162 (by decide) (by decide) ?_
          refine Go.istore X283 hx (hb hby at_162) rfl  #[.val (.int x0), .val (.int x1), .val (.int x2), .val (.int x3), .val (.int x4), .val (.int x5), .val (.int (if (x0 &&& (1 : Int32)) = 0 then 0 else 1 : Int32)), .val (.int (if (x0 &&& (2 : Int32)) = 0 then 0 else 1 : Int32)), .val (.int (if (x0 &&& (4 : Int32)) = 0 then 0 else 1 : Int32)), .val (.ref b10), .val (.int (2 : Int32)), .val (.int (1 : Int32))] rfl ?_
          refine Go.aload X283 hx (hb hby at_164) rfl rfl rfl ?_
          refine Go.iload X283 hx (hb hby at_166) rfl rfl  ?_
          refine Go.pureV X283 hx hZ hown (wd 66 rfl) (wd 67 rfl) (notFace_of_selects (args := #[]) (mvT hZ (wd 69 rfl))) (wd 69 rfl) (wd 68 rfl) (wd 2 rfl) (wd 70 rfl) (by decide) [(.int (2 : Int32))] [] E286 (rmD2 l Z a0 hw b10 x15a b15a g19 k15a k19 (0 : Int64) (1 : Int64) (2 : Int64) (2 : Int64) (0 : Int64) (0 : Int64) T283.heap F287 E283 Fp283 V291 Vg283) rfl rfl (by rw [hml]; rfl) pd_4 rfl (hb hby at_168) (Nat.le_of_ble_eq_true rfl) (Nat.le_of_ble_eq_true rfl) (Nat.le_of_ble_eq_true rfl) (Nat.le_of_ble_eq_true rfl) ?_
          intro T298 X298 e298
          show Go p e below _ T298 (mkF m 171 #[.val (.int x0), .val (.int x1), .val (.int x2), .val (.int x3), .val (.int x4), .val (.int x5), .val (.int (if (x0 &&& (1 : Int32)) = 0 then 0 else 1 : Int32)), .val (.int (if (x0 &&& (2 : Int32)) = 0 then 0 else 1 : Int32)), .val (.int (if (x0 &&& (4 : Int32)) = 0 then 0 else 1 : Int32)), .val (.ref b10), .val (.int (2 : Int32)), .val (.int (1 : Int32))] [(.int (if (2 : Int64) = (2 : Int64) then 1 else 0 : Int32))])
          rw [show (if (2 : Int64) = (2 : Int64) then 1 else 0 : Int32) = (1 : Int32) from by decide]
          show Go p e below _ T298 (mkF m 171 #[.val (.int x0), .val (.int x1), .val (.int x2), .val (.int x3), .val (.int x4), .val (.int x5), .val (.int (if (x0 &&& (1 : Int32)) = 0 then 0 else 1 : Int32)), .val (.int (if (x0 &&& (2 : Int32)) = 0 then 0 else 1 : Int32)), .val (.int (if (x0 &&& (4 : Int32)) = 0 then 0 else 1 : Int32)), .val (.ref b10), .val (.int (2 : Int32)), .val (.int (1 : Int32))] [(.int (1 : Int32))])
          refine Go.iload X298 hx (hb hby at_171) rfl rfl  ?_
          refine Go.icmpNo X298 hx (hb hby at_173) rfl (teq (by decide : (1 : Int32) = (1 : Int32))).2 ?_
          refine Go.iconst X298 hx (hb hby at_176) rfl (1 : Int32) rfl ?_
          refine Go.goto X298 hx (hb hby at_177) rfl 181 (by decide) (by decide) ?_
          exact Go.retZ X298 hx (z' := (1 : Int32)) hret hlk (hb hby at_181) rfl (by decide) ⟨by first | rfl | simp [hc30, hc196, hc282], M284⟩ (Nat.le_of_ble_eq_true rfl) (Nat.le_of_ble_eq_true rfl)
      · refine Go.ifNo X269 hx (hb hby at_91) rfl ((if0 _ _).trans (feq hc282).1) ?_
        refine Go.aload X269 hx (hb hby at_94) rfl rfl rfl ?_
        refine Go.iloadN X269 hx (hb hby at_96) rfl rfl  ?_
        refine Go.iload X269 hx (hb hby at_97) rfl rfl  ?_
        refine Go.callV X269 hx hZ hown (wd 76 rfl) (wd 77 rfl) (notFace_of_selects (args := #[]) (mvT hZ (wd 79 rfl))) (wd 79 rfl) (wd 78 rfl) (wd 2 rfl) (wd 80 rfl) (by decide) [(.int x3), (.int x4)] [] E272 (rm_addEdge_2 l Z a0 hw b10 x15b b15b k15b g171 k171 ((((x2).toInt64) <<< ((32 : Int32) &&& 0x3f).toInt64) ||| (((x3).toInt64) &&& (4294967295 : Int64))) ((((x4).toInt64) <<< ((32 : Int32) &&& 0x3f).toInt64) ||| (((x5).toInt64) &&& (4294967295 : Int64))) (0 : Int64) (0 : Int64) (0 : Int64) (0 : Int64) x3 x4 T269.heap O271 F274 E276 q_x15b ne_b10_x15b ne_b10_b15b n6_15 F279 F280 q171 ne_b10_g171 ne_x15b_g171 ne_b15b_g171 V278 V281) rfl rfl (by rw [hml]; rfl) pd_6 rfl (hb hby at_99) (Nat.le_of_ble_eq_true rfl) (Nat.le_of_ble_eq_true rfl) (Nat.le_of_ble_eq_true rfl) (Nat.le_of_ble_eq_true rfl) ?_
        rintro vv299 T299 L299 X299 Q299
        obtain ⟨rfl, N299, K299, E299, Fp299, Fs299, Vb299, Vg299⟩ := Q299
        have M300 := Fr.app M270 N299
        have O301 := O271.keep K299 (allS q_x15b (allS q171 (all0)))
        have E302 := E272.keep K299
        have F303 := F273.keep K299 (ninS ne_b10_x15b (ninS ne_b10_g171 (nin0)))
        have F304 := F274.keep K299 (ninS ne_b10_x15b (ninS ne_b10_g171 (nin0)))
        have E305 := E269.keep K299
        have E306 := E276.keep K299
        have V307 := V277.keep K299 (ninS n4_15 (ninS ne_b15a_g171 (nin0)))
        have V308 := V278.keep K299 (ninS (Ne.symm n6_15) (ninS ne_b15b_g171 (nin0)))
        have F309 := Fp269.keep K299 (ninS n2_15 (ninS ne_x15a_g171 (nin0)))
        have F310 := Fs269.keep K299 (ninS n2_15 (ninS ne_x15a_g171 (nin0)))
        have V311 := Vg269.keep K299 (ninS (Ne.symm ne_x15b_g19) (ninS ne_g19_g171 (nin0)))
        refine Go.aload X299 hx (hb hby at_102) rfl rfl rfl ?_
        refine Go.callV X299 hx hZ hown (wd 60 rfl) (wd 61 rfl) (notFace_of_selects (args := #[]) (mvT hZ (wd 63 rfl))) (wd 63 rfl) (wd 62 rfl) (wd 2 rfl) (wd 64 rfl) (by decide) [] [] E302 (rm_endEdges_3 l Z a0 hw b10 x15a b15a k15a g19 k19 (0 : Int64) (1 : Int64) (2 : Int64) (0 : Int64) (0 : Int64) (0 : Int64) x15b (3 : Int64) T299.heap O301 F303 E305 q_x15a ne_b10_x15a ne_b10_b15a n1_15 F309 F310 q19 ne_b10_g19 ne_x15a_g19 ne_b15a_g19 V307 V311 F304 E299 Fs299 (Ne.symm n2_15) (Ne.symm n4_15) ne_x15b_g19) rfl rfl (by rw [hml]; rfl) pd_0 rfl (hb hby at_104) (Nat.le_of_ble_eq_true rfl) (Nat.le_of_ble_eq_true rfl) (Nat.le_of_ble_eq_true rfl) (Nat.le_of_ble_eq_true rfl) ?_
        rintro vv312 T312 L312 X312 Q312
        obtain ⟨rfl, N312, K312, E312, Fp312, Fs312, Vb312, Vg312⟩ := Q312
        have M313 := Fr.app M300 N312
        have O314 := O301.keep K312 (allS q_x15a (allS q19 (all0)))
        have E315 := E302.keep K312
        have F316 := F303.keep K312 (ninS ne_b10_x15a (ninS ne_b10_g19 (nin0)))
        have F317 := F304.keep K312 (ninS ne_b10_x15a (ninS ne_b10_g19 (nin0)))
        have E318 := E305.keep K312
        have E319 := E299.keep K312
        have V320 := V307.keep K312 (ninS (Ne.symm n1_15) (ninS ne_b15a_g19 (nin0)))
        have V321 := V308.keep K312 (ninS (Ne.symm n3_15) (ninS ne_b15b_g19 (nin0)))
        have F322 := Fp299.keep K312 (ninS (Ne.symm n2_15) (ninS ne_x15b_g19 (nin0)))
        have F323 := Fs299.keep K312 (ninS (Ne.symm n2_15) (ninS ne_x15b_g19 (nin0)))
        have V324 := Vg299.keep K312 (ninS (Ne.symm ne_x15a_g171) (ninS (Ne.symm ne_g19_g171) (nin0)))
        refine Go.iloadN X312 hx (hb hby at_107) rfl rfl  ?_
        refine Go.ldc X312 hx hZ hown (wd 65 rfl) (hb hby at_108) rfl ?_
        refine Go.iand X312 hx (hb hby at_110) rfl ?_
        refine Go.iconst X312 hx (hb hby at_111) rfl (3 : Int32) rfl ?_
        refine Go.irem X312 hx (hb hby at_112) rfl (by decide) ?_
        refine Go.istore X312 hx (hb hby at_113) rfl  #[.val (.int x0), .val (.int x1), .val (.int x2), .val (.int x3), .val (.int x4), .val (.int x5), .val (.int (if (x0 &&& (1 : Int32)) = 0 then 0 else 1 : Int32)), .val (.int (if (x0 &&& (2 : Int32)) = 0 then 0 else 1 : Int32)), .val (.int (if (x0 &&& (4 : Int32)) = 0 then 0 else 1 : Int32)), .val (.ref b10), .val (.int ((x1 &&& (2147483647 : Int32)) % (3 : Int32))), .unset] rfl ?_
        rcases own_rem3 x1 with hk | hk | hk
        · rw [hk]
          refine Go.iload X312 hx (hb hby at_115) rfl rfl  ?_
          refine Go.ifNo X312 hx (hb hby at_117) rfl ((if0 _ _).trans (teq (by decide : (0 : Int32) = (0 : Int32))).2) ?_
          refine Go.iload X312 hx (hb hby at_120) rfl rfl  ?_
          refine Go.ifYes X312 hx (hb hby at_122) rfl 129 ((if0 _ _).trans (feq hc30).2) (by decide) (by decide) ?_
          refine Go.iconst X312 hx (hb hby at_129) rfl (0 : Int32) rfl ?_
          refine Go.goto X312 hx (hb hby at_130) rfl 162 (by decide) (by decide) ?_
          refine Go.istore X312 hx (hb hby at_162) rfl  #[.val (.int x0), .val (.int x1), .val (.int x2), .val (.int x3), .val (.int x4), .val (.int x5), .val (.int (if (x0 &&& (1 : Int32)) = 0 then 0 else 1 : Int32)), .val (.int (if (x0 &&& (2 : Int32)) = 0 then 0 else 1 : Int32)), .val (.int (if (x0 &&& (4 : Int32)) = 0 then 0 else 1 : Int32)), .val (.ref b10), .val (.int (0 : Int32)), .val (.int (0 : Int32))] rfl ?_
          refine Go.aload X312 hx (hb hby at_164) rfl rfl rfl ?_
          refine Go.iload X312 hx (hb hby at_166) rfl rfl  ?_
          refine Go.pureV X312 hx hZ hown (wd 66 rfl) (wd 67 rfl) (notFace_of_selects (args := #[]) (mvT hZ (wd 69 rfl))) (wd 69 rfl) (wd 68 rfl) (wd 2 rfl) (wd 70 rfl) (by decide) [(.int (0 : Int32))] [] E315 (rmD0 l Z a0 hw b10 x15a b15a g19 k15a k19 (0 : Int64) (1 : Int64) (2 : Int64) (3 : Int64) (0 : Int64) (0 : Int64) T312.heap F316 E312 Fp312 V320 Vg312) rfl rfl (by rw [hml]; rfl) pd_4 rfl (hb hby at_168) (Nat.le_of_ble_eq_true rfl) (Nat.le_of_ble_eq_true rfl) (Nat.le_of_ble_eq_true rfl) (Nat.le_of_ble_eq_true rfl) ?_
          intro T325 X325 e325
          show Go p e below _ T325 (mkF m 171 #[.val (.int x0), .val (.int x1), .val (.int x2), .val (.int x3), .val (.int x4), .val (.int x5), .val (.int (if (x0 &&& (1 : Int32)) = 0 then 0 else 1 : Int32)), .val (.int (if (x0 &&& (2 : Int32)) = 0 then 0 else 1 : Int32)), .val (.int (if (x0 &&& (4 : Int32)) = 0 then 0 else 1 : Int32)), .val (.ref b10), .val (.int (0 : Int32)), .val (.int (0 : Int32))] [(.int (if (0 : Int64) = (1 : Int64) then 1 else 0 : Int32))])
          rw [show (if (0 : Int64) = (1 : Int64) then 1 else 0 : Int32) = (0 : Int32) from by decide]
          show Go p e below _ T325 (mkF m 171 #[.val (.int x0), .val (.int x1), .val (.int x2), .val (.int x3), .val (.int x4), .val (.int x5), .val (.int (if (x0 &&& (1 : Int32)) = 0 then 0 else 1 : Int32)), .val (.int (if (x0 &&& (2 : Int32)) = 0 then 0 else 1 : Int32)), .val (.int (if (x0 &&& (4 : Int32)) = 0 then 0 else 1 : Int32)), .val (.ref b10), .val (.int (0 : Int32)), .val (.int (0 : Int32))] [(.int (0 : Int32))])
          refine Go.iload X325 hx (hb hby at_171) rfl rfl  ?_
          refine Go.icmpNo X325 hx (hb hby at_173) rfl (teq (by decide : (0 : Int32) = (0 : Int32))).2 ?_
          refine Go.iconst X325 hx (hb hby at_176) rfl (1 : Int32) rfl ?_
          refine Go.goto X325 hx (hb hby at_177) rfl 181 (by decide) (by decide) ?_
          exact Go.retZ X325 hx (z' := (1 : Int32)) hret hlk (hb hby at_181) rfl (by decide) ⟨by first | rfl | simp [hc30, hc196, hc282], M313⟩ (Nat.le_of_ble_eq_true rfl) (Nat.le_of_ble_eq_true rfl)
        · rw [hk]
          refine Go.iload X312 hx (hb hby at_115) rfl rfl  ?_
          refine Go.ifYes X312 hx (hb hby at_117) rfl 133 ((if0 _ _).trans (feq (by decide : ¬ ((1 : Int32) = (0 : Int32)))).2) (by decide) (by decide) ?_
          refine Go.iload X312 hx (hb hby at_133) rfl rfl  ?_
          refine Go.iconst X312 hx (hb hby at_135) rfl (1 : Int32) rfl ?_
          refine Go.icmpNo X312 hx (hb hby at_136) rfl (teq (by decide : (1 : Int32) = (1 : Int32))).2 ?_
          refine Go.iload X312 hx (hb hby at_139) rfl rfl  ?_
          refine Go.ifYes X312 hx (hb hby at_141) rfl 148 ((if0 _ _).trans (feq hc196).2) (by decide) (by decide) ?_
          refine Go.iconst X312 hx (hb hby at_148) rfl (0 : Int32) rfl ?_
          refine Go.goto X312 hx (hb hby at_149) rfl 162 (by decide) (by decide) ?_
          refine Go.istore X312 hx (hb hby at_162) rfl  #[.val (.int x0), .val (.int x1), .val (.int x2), .val (.int x3), .val (.int x4), .val (.int x5), .val (.int (if (x0 &&& (1 : Int32)) = 0 then 0 else 1 : Int32)), .val (.int (if (x0 &&& (2 : Int32)) = 0 then 0 else 1 : Int32)), .val (.int (if (x0 &&& (4 : Int32)) = 0 then 0 else 1 : Int32)), .val (.ref b10), .val (.int (1 : Int32)), .val (.int (0 : Int32))] rfl ?_
          refine Go.aload X312 hx (hb hby at_164) rfl rfl rfl ?_
          refine Go.iload X312 hx (hb hby at_166) rfl rfl  ?_
          refine Go.pureV X312 hx hZ hown (wd 66 rfl) (wd 67 rfl) (notFace_of_selects (args := #[]) (mvT hZ (wd 69 rfl))) (wd 69 rfl) (wd 68 rfl) (wd 2 rfl) (wd 70 rfl) (by decide) [(.int (1 : Int32))] [] E315 (rmD1 l Z a0 hw b10 x15a b15a g19 k15a k19 (0 : Int64) (1 : Int64) (2 : Int64) (3 : Int64) (0 : Int64) (0 : Int64) T312.heap F316 E312 Fp312 V320 Vg312) rfl rfl (by rw [hml]; rfl) pd_4 rfl (hb hby at_168) (Nat.le_of_ble_eq_true rfl) (Nat.le_of_ble_eq_true rfl) (Nat.le_of_ble_eq_true rfl) (Nat.le_of_ble_eq_true rfl) ?_
          intro T326 X326 e326
          show Go p e below _ T326 (mkF m 171 #[.val (.int x0), .val (.int x1), .val (.int x2), .val (.int x3), .val (.int x4), .val (.int x5), .val (.int (if (x0 &&& (1 : Int32)) = 0 then 0 else 1 : Int32)), .val (.int (if (x0 &&& (2 : Int32)) = 0 then 0 else 1 : Int32)), .val (.int (if (x0 &&& (4 : Int32)) = 0 then 0 else 1 : Int32)), .val (.ref b10), .val (.int (1 : Int32)), .val (.int (0 : Int32))] [(.int (if (1 : Int64) = (2 : Int64) then 1 else 0 : Int32))])
          rw [show (if (1 : Int64) = (2 : Int64) then 1 else 0 : Int32) = (0 : Int32) from by decide]
          show Go p e below _ T326 (mkF m 171 #[.val (.int x0), .val (.int x1), .val (.int x2), .val (.int x3), .val (.int x4), .val (.int x5), .val (.int (if (x0 &&& (1 : Int32)) = 0 then 0 else 1 : Int32)), .val (.int (if (x0 &&& (2 : Int32)) = 0 then 0 else 1 : Int32)), .val (.int (if (x0 &&& (4 : Int32)) = 0 then 0 else 1 : Int32)), .val (.ref b10), .val (.int (1 : Int32)), .val (.int (0 : Int32))] [(.int (0 : Int32))])
          refine Go.iload X326 hx (hb hby at_171) rfl rfl  ?_
          refine Go.icmpNo X326 hx (hb hby at_173) rfl (teq (by decide : (0 : Int32) = (0 : Int32))).2 ?_
          refine Go.iconst X326 hx (hb hby at_176) rfl (1 : Int32) rfl ?_
          refine Go.goto X326 hx (hb hby at_177) rfl 181 (by decide) (by decide) ?_
          exact Go.retZ X326 hx (z' := (1 : Int32)) hret hlk (hb hby at_181) rfl (by decide) ⟨by first | rfl | simp [hc30, hc196, hc282], M313⟩ (Nat.le_of_ble_eq_true rfl) (Nat.le_of_ble_eq_true rfl)
        · rw [hk]
          refine Go.iload X312 hx (hb hby at_115) rfl rfl  ?_
          refine Go.ifYes X312 hx (hb hby at_117) rfl 133 ((if0 _ _).trans (feq (by decide : ¬ ((2 : Int32) = (0 : Int32)))).2) (by decide) (by decide) ?_
          refine Go.iload X312 hx (hb hby at_133) rfl rfl  ?_
          refine Go.iconst X312 hx (hb hby at_135) rfl (1 : Int32) rfl ?_
          refine Go.icmpYes X312 hx (hb hby at_136) rfl 152 (feq (by decide : ¬ ((2 : Int32) = (1 : Int32)))).2 (by decide) (by decide) ?_
          refine Go.iload X312 hx (hb hby at_152) rfl rfl  ?_
          refine Go.ifYes X312 hx (hb hby at_154) rfl 161 ((if0 _ _).trans (feq hc282).2) (by decide) (by decide) ?_
          refine Go.iconst X312 hx (hb hby at_161) rfl (0 : Int32) rfl ?_
          refine Go.istore X312 hx (hb hby at_162) rfl  #[.val (.int x0), .val (.int x1), .val (.int x2), .val (.int x3), .val (.int x4), .val (.int x5), .val (.int (if (x0 &&& (1 : Int32)) = 0 then 0 else 1 : Int32)), .val (.int (if (x0 &&& (2 : Int32)) = 0 then 0 else 1 : Int32)), .val (.int (if (x0 &&& (4 : Int32)) = 0 then 0 else 1 : Int32)), .val (.ref b10), .val (.int (2 : Int32)), .val (.int (0 : Int32))] rfl ?_
          refine Go.aload X312 hx (hb hby at_164) rfl rfl rfl ?_
          refine Go.iload X312 hx (hb hby at_166) rfl rfl  ?_
          refine Go.pureV X312 hx hZ hown (wd 66 rfl) (wd 67 rfl) (notFace_of_selects (args := #[]) (mvT hZ (wd 69 rfl))) (wd 69 rfl) (wd 68 rfl) (wd 2 rfl) (wd 70 rfl) (by decide) [(.int (2 : Int32))] [] E315 (rmD2 l Z a0 hw b10 x15a b15a g19 k15a k19 (0 : Int64) (1 : Int64) (2 : Int64) (3 : Int64) (0 : Int64) (0 : Int64) T312.heap F316 E312 Fp312 V320 Vg312) rfl rfl (by rw [hml]; rfl) pd_4 rfl (hb hby at_168) (Nat.le_of_ble_eq_true rfl) (Nat.le_of_ble_eq_true rfl) (Nat.le_of_ble_eq_true rfl) (Nat.le_of_ble_eq_true rfl) ?_
          intro T327 X327 e327
          show Go p e below _ T327 (mkF m 171 #[.val (.int x0), .val (.int x1), .val (.int x2), .val (.int x3), .val (.int x4), .val (.int x5), .val (.int (if (x0 &&& (1 : Int32)) = 0 then 0 else 1 : Int32)), .val (.int (if (x0 &&& (2 : Int32)) = 0 then 0 else 1 : Int32)), .val (.int (if (x0 &&& (4 : Int32)) = 0 then 0 else 1 : Int32)), .val (.ref b10), .val (.int (2 : Int32)), .val (.int (0 : Int32))] [(.int (if (2 : Int64) = (3 : Int64) then 1 else 0 : Int32))])
          rw [show (if (2 : Int64) = (3 : Int64) then 1 else 0 : Int32) = (0 : Int32) from by decide]
          show Go p e below _ T327 (mkF m 171 #[.val (.int x0), .val (.int x1), .val (.int x2), .val (.int x3), .val (.int x4), .val (.int x5), .val (.int (if (x0 &&& (1 : Int32)) = 0 then 0 else 1 : Int32)), .val (.int (if (x0 &&& (2 : Int32)) = 0 then 0 else 1 : Int32)), .val (.int (if (x0 &&& (4 : Int32)) = 0 then 0 else 1 : Int32)), .val (.ref b10), .val (.int (2 : Int32)), .val (.int (0 : Int32))] [(.int (0 : Int32))])
          refine Go.iload X327 hx (hb hby at_171) rfl rfl  ?_
          refine Go.icmpNo X327 hx (hb hby at_173) rfl (teq (by decide : (0 : Int32) = (0 : Int32))).2 ?_
          refine Go.iconst X327 hx (hb hby at_176) rfl (1 : Int32) rfl ?_
          refine Go.goto X327 hx (hb hby at_177) rfl 181 (by decide) (by decide) ?_
          exact Go.retZ X327 hx (z' := (1 : Int32)) hret hlk (hb hby at_181) rfl (by decide) ⟨by first | rfl | simp [hc30, hc196, hc282], M313⟩ (Nat.le_of_ble_eq_true rfl) (Nat.le_of_ble_eq_true rfl)
set_option maxRecDepth 65536 in
set_option maxHeartbeats 40000000 in
theorem comes_1 {Post : Tables → Env → Array Value → State → Outcome → State → Prop} (hpost : ∀ tb e args s v u, (limb_1_1.after args s (.returned v) u = true ∧ limb_1_2.after args s (.returned v) u = true ∧ True) → FrameEnd s (.returned v) u (Jvm.fieldLocs frame_1_writes args s ++ Jvm.arrayLocs frame_1_arrays args s ++ Jvm.staticLocs frame_1_statics s) 32 235968 → Post tb e args s (.returned v) u) :
    ArmFor flags0 classFile x code maxLocals ret World_1 tables_1 room_1 Calls_1 rest_1 Pre_1 Post := by
  intro l hfl _ _ p e ha hc hk s m args below hf hA hF happ hP
  obtain ⟨hcalls, hrest, hpre⟩ := hP
  obtain ⟨-, -, -, hnamed, -, -, -, hat⟩ := (Spec.applies_iff hf).mp happ
  obtain ⟨hg, hn⟩ := and_e (Cond.before_iff.mp (show (Jvm.Cond.and given_1 narrow_1).before args s = true from hpre))
  obtain ⟨gi0, gi1⟩ := and_e hg
  obtain ⟨gi2, gi3⟩ := and_e gi1
  obtain ⟨gi4, gi5⟩ := and_e gi3
  obtain ⟨gi6, gi7⟩ := and_e gi5
  obtain ⟨gi8, gi9⟩ := and_e gi7
  obtain ⟨gi10, gi11⟩ := and_e gi9
  obtain ⟨w0, w1, w2, w3, w4, w5, rfl⟩ : ∃ w0 w1 w2 w3 w4 w5 : Value, args = #[w0, w1, w2, w3, w4, w5] := by
    have hs : args.size = 6 := by simpa [Cond.value, given_1] using gi0
    obtain ⟨L⟩ := args
    match L, hs with
    | [w0, w1, w2, w3, w4, w5], _ => exact ⟨w0, w1, w2, w3, w4, w5, rfl⟩
  have hw := fun d (hd : d ∈ tables_1) => atoms_spec (ws := Jvm.Cond.code x code maxLocals ret :: tables_1) hat d (List.mem_cons_of_mem _ hd)
  have wd : ∀ {d : Jvm.Cond} (i : Nat), tables_1[i]? = some d → d.before _ s = true := fun i q => hw _ (List.mem_of_getElem? q)
  have hfit : Fit s := fun {y c} hc i hi => by
    obtain ⟨ha, rfl⟩ := Array.getElem?_eq_some_iff.mp hc
    have q := List.all_eq_true.mp ((Array.all_eq_true_iff_forall_mem.mp hF) _ (Array.getElem_mem ha)) i (List.mem_range.mpr hi)
    simpa [Array.getElem?_eq_getElem hi] using q
  obtain ⟨i0, ei0⟩ := is_v gi2
  obtain rfl : w0 = (.int i0) := Option.some.inj ei0
  obtain ⟨i1, ei1⟩ := is_v gi4
  obtain rfl : w1 = (.int i1) := Option.some.inj ei1
  obtain ⟨i2, ei2⟩ := is_v gi6
  obtain rfl : w2 = (.int i2) := Option.some.inj ei2
  obtain ⟨i3, ei3⟩ := is_v gi8
  obtain rfl : w3 = (.int i3) := Option.some.inj ei3
  obtain ⟨i4, ei4⟩ := is_v gi10
  obtain rfl : w4 = (.int i4) := Option.some.inj ei4
  obtain ⟨i5, ei5⟩ := is_v gi11
  obtain rfl : w5 = (.int i5) := Option.some.inj ei5
  obtain ⟨n, o, h1, h2, h3, _, L, rfl, ⟨rfl, N⟩, hq⟩ := rm0 l s _ hw i0 i1 i2 i3 i4 i5  tables_1 p e ha hc hk s m _ below hf ((Spec.applies_iff_loose hf).mp happ).1 ⟨rfl, State.Warmed39.refl s, rfl⟩ trivial
  refine ⟨n, _, h1, h2, h3, hpost _ _ _ _ _ _ ⟨Cond.after_iff.mpr rfl, Cond.after_iff.mpr (eq_i res_at (Term.int_eval (1)) rfl), trivial⟩ ⟨hq.1, hq.2.1, (hq.2.2.sift fun y hy => Or.inr (N y hy)).mono (by decide) (by decide)⟩⟩
theorem main_1_1 : Claimed_1_1 := comes_1 fun _ _ _ _ _ _ h hF => ⟨h.1, hF⟩
theorem main_1_2 : Claimed_1_2 := comes_1 fun _ _ _ _ _ _ h hF => ⟨h.2.1, hF⟩
end Jvm.Pilot.@@N@@
namespace Jvm.Pilot.@@N@@
open Jvm Jvm.ClassFile Sem Op Lib Jvm.Free Jvm.Stand Jvm.Pilot.@@N@@.Jvm.D
/-! MADE BY PROGRAM (witnessworld.py) out of the Statement's table words and the real class files: 13 classes; the members and pool entries that the words name. The judged class is class 1, her method 1. -/
namespace start1
open Jvm.ClassFile
def u (s : String) : CpInfo := .utf8 (stringToUtf16 s)
/-- a pool by its gaps: so many unusable entries, then the entry; so many at the end -/
def gap : Nat → List CpInfo → List CpInfo
  | 0, r => r
  | n + 1, r => .unusable :: gap n r
def poolList (es : List (Nat × CpInfo)) (last : Nat) : List CpInfo := es.foldr (fun e r => gap e.1 (e.2 :: r)) (gap last [])
def pool (es : List (Nat × CpInfo)) (last : Nat) : Array CpInfo := ⟨poolList es last⟩
def fileOf (pool : Array CpInfo) (this : Nat) (attrs : Array Attribute := #[]) (ms : Array MethodInfo := #[]) (fl : Nat := 33) (sup : Nat := 0) (ifs : Array Nat := #[]) (fds : Array FieldInfo := #[]) : ClassFile where
  minorVersion := 0
  majorVersion := 65
  constantPool := pool
  accessFlags := fl
  thisClass := this
  superClass := sup
  interfaces := ifs
  fields := fds
  methods := ms
  attributes := attrs
def plain (name : String) (sup : Option ClassId) : Class where
  name := name
  kind := .ordinary
  loader := none
  accessFlags := 33
  super := sup
  interfaces := #[]
  cf := none
  fields := #[]
  methods := #[]
  instanceTypes := #[]
  staticTypes := #[]
  resolved := #[]
  callSites := []
  init := .initialized
  statics := none
  mirror := none

def pool0 : Array CpInfo := pool [(5, u "<init>"), (0, u "()V"), (1, .class_ 10), (1, u "java/lang/Object")] 113

def k0c0 : Code := { maxStack := 0, maxLocals := 1, code := object_method_1_code, exceptionTable := #[], attributes := #[] }
def k0m0 : Method := { name := "<init>", desc := "()V", sig := { parameters := [], returnType := none }, accessFlags := 1, code := some k0c0 }
/-- java/lang/Object -/
def k0 : Class := { plain "java/lang/Object" none with
  accessFlags := 33
  interfaces := #[]
  cf := some (fileOf pool0 8 #[] #[{ accessFlags := 1, nameIndex := 5, descriptorIndex := 6, attributes := #[] }] 33 0 #[] #[])
  fields := #[]
  methods := #[k0m0]
  instanceTypes := #[]
  staticTypes := #[]
  resolved := Array.replicate 124 none
  statics := none }

def pool1 : Array CpInfo := pool [(2, .class_ 4), (0, .nameAndType 5 6), (0, u "java/lang/Object"), (0, u "<init>"), (0, u "()V"), (0, .class_ 8), (0, u "com/example/diktyo/diktyo/analysis/ReachabilityGraph"), (0, .methodref 7 3), (0, .methodref 7 11), (0, .nameAndType 12 6), (0, u "startEdges"), (0, .methodref 7 14), (0, .nameAndType 15 16), (0, u "addEdge"), (0, u "(II)V"), (0, .methodref 7 18), (0, .nameAndType 19 6), (0, u "endEdges"), (0, .integer 2147483647), (0, .methodref 7 22), (0, .nameAndType 23 24), (0, u "isDead"), (0, u "(I)Z"), (0, .class_ 26), (0, u "com/example/diktyo/diktyo/analysis/ReachabilityGraphIsDeadPinLaw"), (2, u "law"), (0, u "(IIIIII)Z")] 3

def k1m0 : Method := { name := "<init>", desc := "()V", sig := { parameters := [], returnType := none }, accessFlags := 1, code := none }
def k1c1 : Code := { maxStack := 3, maxLocals := 12, code := code, exceptionTable := #[], attributes := #[] }
def k1m1 : Method := { name := "law", desc := "(IIIIII)Z", sig := { parameters := [.int, .int, .int, .int, .int, .int], returnType := some .boolean }, accessFlags := 9, code := some k1c1 }
/-- com/example/diktyo/diktyo/analysis/ReachabilityGraphIsDeadPinLaw -/
def k1 : Class := { plain "com/example/diktyo/diktyo/analysis/ReachabilityGraphIsDeadPinLaw" (some 0) with
  accessFlags := 49
  interfaces := #[]
  cf := some (fileOf pool1 25 #[] #[{ accessFlags := 1, nameIndex := 5, descriptorIndex := 6, attributes := #[] }, { accessFlags := 9, nameIndex := 29, descriptorIndex := 30, attributes := #[] }] 49 2 #[] #[])
  fields := #[]
  methods := #[k1m0, k1m1]
  instanceTypes := #[]
  staticTypes := #[]
  resolved := Array.replicate 34 none
  statics := none }

def pool2 : Array CpInfo := pool [(1, .methodref 2 3), (0, .class_ 4), (0, .nameAndType 5 6), (0, u "java/lang/Object"), (0, u "<init>"), (0, u "()V"), (0, .class_ 8), (0, u "com/example/diktyo/diktyo/analysis/SpanningTree"), (0, .methodref 7 3), (0, .fieldref 11 12), (0, .class_ 13), (0, .nameAndType 14 15), (0, u "com/example/diktyo/diktyo/analysis/ReachabilityGraph"), (0, u "tree"), (0, u "Lcom/example/diktyo/diktyo/analysis/SpanningTree;"), (0, .class_ 17), (0, u "com/example/diktyo/diktyo/analysis/LongPages"), (0, .methodref 16 3), (0, .fieldref 11 20), (0, .nameAndType 21 22), (0, u "firstEdges"), (0, u "Lcom/example/diktyo/diktyo/analysis/LongPages;"), (0, .fieldref 11 24), (0, .nameAndType 25 22), (0, u "edges"), (0, .methodref 16 27), (0, .nameAndType 28 29), (0, u "size"), (0, u "()J"), (0, .methodref 16 31), (0, .nameAndType 32 33), (0, u "add"), (0, u "(J)V"), (0, .methodref 11 35), (0, .nameAndType 36 37), (0, u "edge"), (0, u "(II)J"), (4, .methodref 16 43), (0, .nameAndType 44 45), (0, u "get"), (0, u "(J)J"), (0, .class_ 47), (0, u "com/example/diktyo/diktyo/analysis/ReachabilityGraph$Components"), (3, .long 4294967295), (4, u "startEdges"), (0, u "addEdge"), (0, u "(II)V"), (0, u "endEdges"), (1, u "isDead"), (0, u "(I)Z")] 11

def k2c0 : Code := { maxStack := 3, maxLocals := 1, code := prog_21_method_1_code, exceptionTable := #[], attributes := #[] }
def k2m0 : Method := { name := "<init>", desc := "()V", sig := { parameters := [], returnType := none }, accessFlags := 0, code := some k2c0 }
def k2c1 : Code := { maxStack := 3, maxLocals := 1, code := prog_21_method_3_code, exceptionTable := #[], attributes := #[] }
def k2m1 : Method := { name := "startEdges", desc := "()V", sig := { parameters := [], returnType := none }, accessFlags := 0, code := some k2c1 }
def k2c2 : Code := { maxStack := 3, maxLocals := 3, code := prog_21_method_4_code, exceptionTable := #[], attributes := #[] }
def k2m2 : Method := { name := "addEdge", desc := "(II)V", sig := { parameters := [.int, .int], returnType := none }, accessFlags := 0, code := some k2c2 }
def k2c3 : Code := { maxStack := 3, maxLocals := 1, code := prog_21_method_5_code, exceptionTable := #[], attributes := #[] }
def k2m3 : Method := { name := "endEdges", desc := "()V", sig := { parameters := [], returnType := none }, accessFlags := 0, code := some k2c3 }
def k2c4 : Code := { maxStack := 5, maxLocals := 2, code := prog_21_method_8_code, exceptionTable := #[], attributes := #[] }
def k2m4 : Method := { name := "isDead", desc := "(I)Z", sig := { parameters := [.int], returnType := some .boolean }, accessFlags := 0, code := some k2c4 }
def k2c5 : Code := { maxStack := 6, maxLocals := 2, code := prog_21_method_10_code, exceptionTable := #[], attributes := #[] }
def k2m5 : Method := { name := "edge", desc := "(II)J", sig := { parameters := [.int, .int], returnType := some .long }, accessFlags := 10, code := some k2c5 }
/-- com/example/diktyo/diktyo/analysis/ReachabilityGraph -/
def k2 : Class := { plain "com/example/diktyo/diktyo/analysis/ReachabilityGraph" (some 0) with
  accessFlags := 48
  interfaces := #[]
  cf := some (fileOf pool2 11 #[.nestMembers #[46]] #[{ accessFlags := 0, nameIndex := 5, descriptorIndex := 6, attributes := #[] }, { accessFlags := 0, nameIndex := 56, descriptorIndex := 6, attributes := #[] }, { accessFlags := 0, nameIndex := 57, descriptorIndex := 58, attributes := #[] }, { accessFlags := 0, nameIndex := 59, descriptorIndex := 6, attributes := #[] }, { accessFlags := 0, nameIndex := 61, descriptorIndex := 62, attributes := #[] }, { accessFlags := 10, nameIndex := 36, descriptorIndex := 37, attributes := #[] }] 48 2 #[] #[{ accessFlags := 18, nameIndex := 14, descriptorIndex := 15, attributes := #[] }, { accessFlags := 18, nameIndex := 21, descriptorIndex := 22, attributes := #[] }, { accessFlags := 18, nameIndex := 25, descriptorIndex := 22, attributes := #[] }])
  fields := #[{ name := "tree", type := (.object "com/example/diktyo/diktyo/analysis/SpanningTree"), accessFlags := 18, slot := 0, constantValue := 0 }, { name := "firstEdges", type := (.object "com/example/diktyo/diktyo/analysis/LongPages"), accessFlags := 18, slot := 1, constantValue := 0 }, { name := "edges", type := (.object "com/example/diktyo/diktyo/analysis/LongPages"), accessFlags := 18, slot := 2, constantValue := 0 }]
  methods := #[k2m0, k2m1, k2m2, k2m3, k2m4, k2m5]
  instanceTypes := #[(.object "com/example/diktyo/diktyo/analysis/SpanningTree"), (.object "com/example/diktyo/diktyo/analysis/LongPages"), (.object "com/example/diktyo/diktyo/analysis/LongPages")]
  staticTypes := #[]
  resolved := Array.replicate 74 none
  statics := none }

def pool3 : Array CpInfo := pool [(1, .methodref 2 3), (0, .class_ 4), (0, .nameAndType 5 6), (0, u "java/lang/Object"), (0, u "<init>"), (0, u "()V"), (0, .class_ 8), (0, u "com/example/diktyo/diktyo/analysis/LongPages"), (0, .methodref 7 3), (0, .fieldref 11 12), (0, .class_ 13), (0, .nameAndType 14 15), (0, u "com/example/diktyo/diktyo/analysis/SpanningTree"), (0, u "parents"), (0, u "Lcom/example/diktyo/diktyo/analysis/LongPages;"), (0, .long 18446744073709551615), (1, .methodref 7 19), (0, .nameAndType 20 21), (0, u "add"), (0, u "(J)V")] 31

def k3c0 : Code := { maxStack := 3, maxLocals := 1, code := prog_30_method_1_code, exceptionTable := #[], attributes := #[] }
def k3m0 : Method := { name := "<init>", desc := "()V", sig := { parameters := [], returnType := none }, accessFlags := 0, code := some k3c0 }
/-- com/example/diktyo/diktyo/analysis/SpanningTree -/
def k3 : Class := { plain "com/example/diktyo/diktyo/analysis/SpanningTree" (some 0) with
  accessFlags := 48
  interfaces := #[]
  cf := some (fileOf pool3 11 #[] #[{ accessFlags := 0, nameIndex := 5, descriptorIndex := 6, attributes := #[] }] 48 2 #[] #[{ accessFlags := 18, nameIndex := 14, descriptorIndex := 15, attributes := #[] }])
  fields := #[{ name := "parents", type := (.object "com/example/diktyo/diktyo/analysis/LongPages"), accessFlags := 18, slot := 0, constantValue := 0 }]
  methods := #[k3m0]
  instanceTypes := #[(.object "com/example/diktyo/diktyo/analysis/LongPages")]
  staticTypes := #[]
  resolved := Array.replicate 53 none
  statics := none }

def pool4 : Array CpInfo := pool [(1, .class_ 2), (0, u "com/example/diktyo/diktyo/analysis/LongPages"), (0, .methodref 4 5), (0, .class_ 6), (0, .nameAndType 7 8), (0, u "java/lang/Object"), (0, u "<init>"), (0, u "()V"), (0, .class_ 10), (0, u "[J"), (0, .fieldref 1 12), (0, .nameAndType 13 14), (0, u "pages"), (0, u "[[J"), (0, .fieldref 1 16), (0, .nameAndType 17 18), (0, u "size"), (0, u "J"), (7, .integer 65536), (0, .integer 65535), (0, u "PAGE_BITS"), (0, u "I"), (2, u "PAGE_MASK"), (2, u "()J"), (0, u "add"), (0, u "(J)V"), (1, u "get"), (0, u "(J)J")] 4

def k4c0 : Code := { maxStack := 2, maxLocals := 1, code := prog_14_method_1_code, exceptionTable := #[], attributes := #[] }
def k4m0 : Method := { name := "<init>", desc := "()V", sig := { parameters := [], returnType := none }, accessFlags := 0, code := some k4c0 }
def k4c1 : Code := { maxStack := 2, maxLocals := 1, code := prog_14_method_2_code, exceptionTable := #[], attributes := #[] }
def k4m1 : Method := { name := "size", desc := "()J", sig := { parameters := [], returnType := some .long }, accessFlags := 0, code := some k4c1 }
def k4c2 : Code := { maxStack := 5, maxLocals := 4, code := prog_14_method_3_code, exceptionTable := #[], attributes := #[] }
def k4m2 : Method := { name := "add", desc := "(J)V", sig := { parameters := [.long], returnType := none }, accessFlags := 0, code := some k4c2 }
def k4c3 : Code := { maxStack := 4, maxLocals := 3, code := prog_14_method_4_code, exceptionTable := #[], attributes := #[] }
def k4m3 : Method := { name := "get", desc := "(J)J", sig := { parameters := [.long], returnType := some .long }, accessFlags := 0, code := some k4c3 }
/-- com/example/diktyo/diktyo/analysis/LongPages -/
def k4 : Class := { plain "com/example/diktyo/diktyo/analysis/LongPages" (some 0) with
  accessFlags := 48
  interfaces := #[]
  cf := some (fileOf pool4 1 #[] #[{ accessFlags := 0, nameIndex := 7, descriptorIndex := 8, attributes := #[] }, { accessFlags := 0, nameIndex := 17, descriptorIndex := 35, attributes := #[] }, { accessFlags := 0, nameIndex := 36, descriptorIndex := 37, attributes := #[] }, { accessFlags := 0, nameIndex := 39, descriptorIndex := 40, attributes := #[] }] 48 4 #[] #[{ accessFlags := 26, nameIndex := 28, descriptorIndex := 29, attributes := #[] }, { accessFlags := 26, nameIndex := 32, descriptorIndex := 29, attributes := #[] }, { accessFlags := 2, nameIndex := 13, descriptorIndex := 14, attributes := #[] }, { accessFlags := 2, nameIndex := 17, descriptorIndex := 18, attributes := #[] }])
  fields := #[{ name := "PAGE_BITS", type := .int, accessFlags := 26, slot := 0, constantValue := 0 }, { name := "PAGE_MASK", type := .int, accessFlags := 26, slot := 1, constantValue := 0 }, { name := "pages", type := (.array (.array .long)), accessFlags := 2, slot := 0, constantValue := 0 }, { name := "size", type := .long, accessFlags := 2, slot := 1, constantValue := 0 }]
  methods := #[k4m0, k4m1, k4m2, k4m3]
  instanceTypes := #[(.array (.array .long)), .long]
  staticTypes := #[.int, .int]
  resolved := Array.replicate 45 none
  statics := none }

def pool5 : Array CpInfo := pool [(1, u "java/lang/Cloneable"), (0, .class_ 1), (0, u "java/lang/Object"), (0, .class_ 3)] 3

/-- java/lang/Cloneable -/
def k5 : Class := { plain "java/lang/Cloneable" (some 0) with
  accessFlags := 1537
  interfaces := #[]
  cf := some (fileOf pool5 2 #[] #[] 1537 4 #[] #[])
  fields := #[]
  methods := #[]
  instanceTypes := #[]
  staticTypes := #[]
  resolved := Array.replicate 8 none
  statics := none }

def pool6 : Array CpInfo := pool [(1, u "java/io/Serializable"), (0, .class_ 1), (0, u "java/lang/Object"), (0, .class_ 3)] 3

/-- java/io/Serializable -/
def k6 : Class := { plain "java/io/Serializable" (some 0) with
  accessFlags := 1537
  interfaces := #[]
  cf := some (fileOf pool6 2 #[] #[] 1537 4 #[] #[])
  fields := #[]
  methods := #[]
  instanceTypes := #[]
  staticTypes := #[]
  resolved := Array.replicate 8 none
  statics := none }

/-- the primitive byte -/
def k7 : Class := { plain "byte" none with kind := .primitive 'B', accessFlags := 0x411 }
/-- [B -/
def k8 : Class := { plain "[B" (some 0) with kind := .array 7 .byte, interfaces := #[5, 6], accessFlags := 1041 }

/-- the primitive int -/
def k9 : Class := { plain "int" none with kind := .primitive 'I', accessFlags := 0x411 }
/-- [I -/
def k10 : Class := { plain "[I" (some 0) with kind := .array 9 .int, interfaces := #[5, 6], accessFlags := 1041 }

/-- the primitive long -/
def k11 : Class := { plain "long" none with kind := .primitive 'J', accessFlags := 0x411 }
/-- [J -/
def k12 : Class := { plain "[J" (some 0) with kind := .array 11 .long, interfaces := #[5, 6], accessFlags := 1041 }

def k13 : Class := { plain "[[J" (some 0) with kind := .array 12 (.array .long), interfaces := #[5, 6], accessFlags := 1041 }
def heap : Heap := #[]
def classes : Array Class := #[k0, k1, k2, k3, k4, k5, k6, k7, k8, k9, k10, k11, k12, k13]
def interned : List (Array UInt16 × Addr) := []
def slotsUsed : Nat := 0
def theMethod : MethodId := ⟨1, 1⟩
def args0 : Array Value := #[.int 5, .int 1, .int 2, .int 3, .int 4, .int 5]
def aboutOver (below : List Frame) : State where
  vm := { classes := classes, interned := interned.toArray }
  heap := heap
  slotsUsed := slotsUsed
  threads := #[{ frames := .invoking theMethod args0 :: below }]
def below0 : List Frame := [.native { method := ⟨0, 0⟩, args := #[] }]
def about1 : State := aboutOver below0
def p0 : Program := .bare "" "" ""
def e0 : Env := launch0.env 0 0 0
theorem w_frames : about1.frames = Frame.invoking theMethod args0 :: below0 := rfl
set_option maxRecDepth 65536 in
theorem w_args : argsFit about1.vm theMethod args0 = true := by decide +kernel
set_option maxRecDepth 65536 in
theorem w_heap : heapFits about1 = true := by decide +kernel
set_option maxRecDepth 65536 in
theorem w_runnable : about1.curStatus? = some .runnable := by decide +kernel
set_option maxRecDepth 65536 in
theorem w_alone : about1.alone = true := by decide +kernel
set_option maxRecDepth 65536 in
theorem w_named : about1.methodNamed? x = some theMethod := by decide +kernel
set_option maxRecDepth 65536 in
theorem w_hears : about1.hears theMethod below0 = true := by decide +kernel
set_option maxRecDepth 65536 in
theorem w_ripe : about1.ripe theMethod args0 below0 = true := by decide +kernel
theorem w_running : about1.status = .running := rfl
set_option maxRecDepth 65536 in
theorem w_room : about1.hasRoom e0.platform room_1 = true :=
  launch0.hasRoom_least _ room_1 (by decide +kernel) (by decide +kernel) (by decide +kernel) (by decide +kernel) (by decide +kernel) (by decide +kernel)
theorem allAtoms_all (ts : List Jvm.Cond) (a : Array Jvm.Value) (st : Jvm.State) : (allAtoms ts).before a st = ts.all (fun c => c.before a st) := by
  induction ts with
  | nil => rfl
  | cons c t ih =>
    show (Jvm.Cond.and c (allAtoms t)).before a st = _
    rw [Jvm.Cond.before_and, ih, List.all_cons]
def words1 : List Jvm.Cond := Jvm.Cond.code x code maxLocals ret :: tables_1
/-- a 'code' word, met by the world's own term for the bytes: nothing is compared byte by byte -/
theorem code_word {y : MethodName} {bytes : ByteArray} {mx : Nat} {rt : Option FieldType} {a : Array Value} {s : State} {m : MethodId} {meth : Method} {c : Code} (h1 : s.methodNamed? y = some m) (h2 : s.vm.method? m = some meth) (h3 : meth.code = some c) (h4 : c.code = bytes)
    (h5 : (c.maxLocals == mx && c.exceptionTable.isEmpty && decide (c.maxStack ≤ mostOperands) && decide (meth.sig.returnType = rt) && !meth.locks && decide (parseMethodDescriptor y.desc = some meth.sig)) = true) : (Jvm.Cond.code y bytes mx rt).before a s = true := by
  simp only [Bool.and_eq_true, beq_iff_eq, Bool.not_eq_true', decide_eq_true_eq] at h5
  obtain ⟨⟨⟨⟨⟨g1, g2⟩, g3⟩, g4⟩, g5⟩, g6⟩ := h5
  simp [Cond.before, Cond.holds, Cond.value, h1, h2, h3, h4, g1, g2, g3, g4, g5, g6]
def isCode : Jvm.Cond → Bool
  | .code _ _ _ _ => true
  | _ => false
theorem all_split {L : List Jvm.Cond} {P : Jvm.Cond → Bool} (h1 : L.all (fun c => isCode c || P c) = true) (h2 : ∀ c ∈ L.filter isCode, P c = true) : L.all P = true := by
  refine List.all_eq_true.mpr fun c hc => ?_
  have h := List.all_eq_true.mp h1 c hc
  rcases Bool.eq_false_or_eq_true (isCode c) with hi | hi
  · exact h2 c (List.mem_filter.mpr ⟨hc, hi⟩)
  · simpa [hi] using h
set_option maxRecDepth 65536 in
theorem w_c0 : (Jvm.Cond.code x code maxLocals ret).before args0 about1 = true := code_word (m := ⟨1, 1⟩) (meth := k1m1) (c := k1c1) (by decide +kernel) rfl rfl rfl (by decide +kernel)
set_option maxRecDepth 65536 in
theorem w_c1 : (Jvm.Cond.code ({ cls := "com/example/diktyo/diktyo/analysis/ReachabilityGraph", name := "<init>", desc := "()V" } : Jvm.MethodName) prog_21_method_1_code (1 : Nat) (Option.none : Option Jvm.ClassFile.FieldType)).before args0 about1 = true := code_word (m := ⟨2, 0⟩) (meth := k2m0) (c := k2c0) (by decide +kernel) rfl rfl rfl (by decide +kernel)
set_option maxRecDepth 65536 in
theorem w_c2 : (Jvm.Cond.code ({ cls := "java/lang/Object", name := "<init>", desc := "()V" } : Jvm.MethodName) object_method_1_code (1 : Nat) (Option.none : Option Jvm.ClassFile.FieldType)).before args0 about1 = true := code_word (m := ⟨0, 0⟩) (meth := k0m0) (c := k0c0) (by decide +kernel) rfl rfl rfl (by decide +kernel)
set_option maxRecDepth 65536 in
theorem w_c3 : (Jvm.Cond.code ({ cls := "com/example/diktyo/diktyo/analysis/SpanningTree", name := "<init>", desc := "()V" } : Jvm.MethodName) prog_30_method_1_code (1 : Nat) (Option.none : Option Jvm.ClassFile.FieldType)).before args0 about1 = true := code_word (m := ⟨3, 0⟩) (meth := k3m0) (c := k3c0) (by decide +kernel) rfl rfl rfl (by decide +kernel)
set_option maxRecDepth 65536 in
theorem w_c4 : (Jvm.Cond.code ({ cls := "com/example/diktyo/diktyo/analysis/LongPages", name := "<init>", desc := "()V" } : Jvm.MethodName) prog_14_method_1_code (1 : Nat) (Option.none : Option Jvm.ClassFile.FieldType)).before args0 about1 = true := code_word (m := ⟨4, 0⟩) (meth := k4m0) (c := k4c0) (by decide +kernel) rfl rfl rfl (by decide +kernel)
set_option maxRecDepth 65536 in
theorem w_c5 : (Jvm.Cond.code ({ cls := "com/example/diktyo/diktyo/analysis/LongPages", name := "add", desc := "(J)V" } : Jvm.MethodName) prog_14_method_3_code (4 : Nat) (Option.none : Option Jvm.ClassFile.FieldType)).before args0 about1 = true := code_word (m := ⟨4, 2⟩) (meth := k4m2) (c := k4c2) (by decide +kernel) rfl rfl rfl (by decide +kernel)
set_option maxRecDepth 65536 in
theorem w_c6 : (Jvm.Cond.code ({ cls := "com/example/diktyo/diktyo/analysis/ReachabilityGraph", name := "startEdges", desc := "()V" } : Jvm.MethodName) prog_21_method_3_code (1 : Nat) (Option.none : Option Jvm.ClassFile.FieldType)).before args0 about1 = true := code_word (m := ⟨2, 1⟩) (meth := k2m1) (c := k2c1) (by decide +kernel) rfl rfl rfl (by decide +kernel)
set_option maxRecDepth 65536 in
theorem w_c7 : (Jvm.Cond.code ({ cls := "com/example/diktyo/diktyo/analysis/LongPages", name := "size", desc := "()J" } : Jvm.MethodName) prog_14_method_2_code (1 : Nat) (Option.some Jvm.ClassFile.FieldType.long)).before args0 about1 = true := code_word (m := ⟨4, 1⟩) (meth := k4m1) (c := k4c1) (by decide +kernel) rfl rfl rfl (by decide +kernel)
set_option maxRecDepth 65536 in
theorem w_c8 : (Jvm.Cond.code ({ cls := "com/example/diktyo/diktyo/analysis/ReachabilityGraph", name := "endEdges", desc := "()V" } : Jvm.MethodName) prog_21_method_5_code (1 : Nat) (Option.none : Option Jvm.ClassFile.FieldType)).before args0 about1 = true := code_word (m := ⟨2, 3⟩) (meth := k2m3) (c := k2c3) (by decide +kernel) rfl rfl rfl (by decide +kernel)
set_option maxRecDepth 65536 in
theorem w_c9 : (Jvm.Cond.code ({ cls := "com/example/diktyo/diktyo/analysis/ReachabilityGraph", name := "isDead", desc := "(I)Z" } : Jvm.MethodName) prog_21_method_8_code (2 : Nat) (Option.some Jvm.ClassFile.FieldType.boolean)).before args0 about1 = true := code_word (m := ⟨2, 4⟩) (meth := k2m4) (c := k2c4) (by decide +kernel) rfl rfl rfl (by decide +kernel)
set_option maxRecDepth 65536 in
theorem w_c10 : (Jvm.Cond.code ({ cls := "com/example/diktyo/diktyo/analysis/LongPages", name := "get", desc := "(J)J" } : Jvm.MethodName) prog_14_method_4_code (3 : Nat) (Option.some Jvm.ClassFile.FieldType.long)).before args0 about1 = true := code_word (m := ⟨4, 3⟩) (meth := k4m3) (c := k4c3) (by decide +kernel) rfl rfl rfl (by decide +kernel)
set_option maxRecDepth 65536 in
theorem w_c11 : (Jvm.Cond.code ({ cls := "com/example/diktyo/diktyo/analysis/ReachabilityGraph", name := "addEdge", desc := "(II)V" } : Jvm.MethodName) prog_21_method_4_code (3 : Nat) (Option.none : Option Jvm.ClassFile.FieldType)).before args0 about1 = true := code_word (m := ⟨2, 2⟩) (meth := k2m2) (c := k2c2) (by decide +kernel) rfl rfl rfl (by decide +kernel)
set_option maxRecDepth 65536 in
theorem w_c12 : (Jvm.Cond.code ({ cls := "com/example/diktyo/diktyo/analysis/ReachabilityGraph", name := "edge", desc := "(II)J" } : Jvm.MethodName) prog_21_method_10_code (2 : Nat) (Option.some Jvm.ClassFile.FieldType.long)).before args0 about1 = true := code_word (m := ⟨2, 5⟩) (meth := k2m5) (c := k2c5) (by decide +kernel) rfl rfl rfl (by decide +kernel)
def codes1 : List Jvm.Cond := [Jvm.Cond.code x code maxLocals ret, Jvm.Cond.code ({ cls := "com/example/diktyo/diktyo/analysis/ReachabilityGraph", name := "<init>", desc := "()V" } : Jvm.MethodName) prog_21_method_1_code (1 : Nat) (Option.none : Option Jvm.ClassFile.FieldType), Jvm.Cond.code ({ cls := "java/lang/Object", name := "<init>", desc := "()V" } : Jvm.MethodName) object_method_1_code (1 : Nat) (Option.none : Option Jvm.ClassFile.FieldType), Jvm.Cond.code ({ cls := "com/example/diktyo/diktyo/analysis/SpanningTree", name := "<init>", desc := "()V" } : Jvm.MethodName) prog_30_method_1_code (1 : Nat) (Option.none : Option Jvm.ClassFile.FieldType), Jvm.Cond.code ({ cls := "com/example/diktyo/diktyo/analysis/LongPages", name := "<init>", desc := "()V" } : Jvm.MethodName) prog_14_method_1_code (1 : Nat) (Option.none : Option Jvm.ClassFile.FieldType), Jvm.Cond.code ({ cls := "com/example/diktyo/diktyo/analysis/LongPages", name := "add", desc := "(J)V" } : Jvm.MethodName) prog_14_method_3_code (4 : Nat) (Option.none : Option Jvm.ClassFile.FieldType), Jvm.Cond.code ({ cls := "com/example/diktyo/diktyo/analysis/ReachabilityGraph", name := "startEdges", desc := "()V" } : Jvm.MethodName) prog_21_method_3_code (1 : Nat) (Option.none : Option Jvm.ClassFile.FieldType), Jvm.Cond.code ({ cls := "com/example/diktyo/diktyo/analysis/LongPages", name := "size", desc := "()J" } : Jvm.MethodName) prog_14_method_2_code (1 : Nat) (Option.some Jvm.ClassFile.FieldType.long), Jvm.Cond.code ({ cls := "com/example/diktyo/diktyo/analysis/ReachabilityGraph", name := "endEdges", desc := "()V" } : Jvm.MethodName) prog_21_method_5_code (1 : Nat) (Option.none : Option Jvm.ClassFile.FieldType), Jvm.Cond.code ({ cls := "com/example/diktyo/diktyo/analysis/ReachabilityGraph", name := "isDead", desc := "(I)Z" } : Jvm.MethodName) prog_21_method_8_code (2 : Nat) (Option.some Jvm.ClassFile.FieldType.boolean), Jvm.Cond.code ({ cls := "com/example/diktyo/diktyo/analysis/LongPages", name := "get", desc := "(J)J" } : Jvm.MethodName) prog_14_method_4_code (3 : Nat) (Option.some Jvm.ClassFile.FieldType.long), Jvm.Cond.code ({ cls := "com/example/diktyo/diktyo/analysis/ReachabilityGraph", name := "addEdge", desc := "(II)V" } : Jvm.MethodName) prog_21_method_4_code (3 : Nat) (Option.none : Option Jvm.ClassFile.FieldType), Jvm.Cond.code ({ cls := "com/example/diktyo/diktyo/analysis/ReachabilityGraph", name := "edge", desc := "(II)J" } : Jvm.MethodName) prog_21_method_10_code (2 : Nat) (Option.some Jvm.ClassFile.FieldType.long)]
set_option maxRecDepth 65536 in
theorem codes_eq : words1.filter isCode = codes1 := rfl
theorem w_codes : ∀ c ∈ words1.filter isCode, c.before args0 about1 = true := by
  rw [codes_eq]
  intro c hc
  simp only [codes1, List.mem_cons, List.not_mem_nil, or_false] at hc
  rcases hc with rfl | rfl | rfl | rfl | rfl | rfl | rfl | rfl | rfl | rfl | rfl | rfl | rfl
  · exact w_c0
  · exact w_c1
  · exact w_c2
  · exact w_c3
  · exact w_c4
  · exact w_c5
  · exact w_c6
  · exact w_c7
  · exact w_c8
  · exact w_c9
  · exact w_c10
  · exact w_c11
  · exact w_c12
set_option maxRecDepth 65536 in
theorem w_t1 : (words1.take 24).all (fun c => isCode c || c.before args0 about1) = true := by decide +kernel
set_option maxRecDepth 65536 in
theorem w_t2 : ((words1.drop 24).take 24).all (fun c => isCode c || c.before args0 about1) = true := by decide +kernel
set_option maxRecDepth 65536 in
theorem w_t3 : (((words1.drop 24).drop 24).take 24).all (fun c => isCode c || c.before args0 about1) = true := by decide +kernel
set_option maxRecDepth 65536 in
theorem w_t4 : (((words1.drop 24).drop 24).drop 24).all (fun c => isCode c || c.before args0 about1) = true := by decide +kernel
theorem w_tables : (allAtoms (Jvm.Cond.code x code maxLocals ret :: tables_1)).before args0 about1 = true := by
  rw [allAtoms_all]
  show words1.all (fun c => c.before args0 about1) = true
  refine all_split ?_ w_codes
  rw [← List.take_append_drop 24 words1, List.all_append, w_t1, ← List.take_append_drop 24 (words1.drop 24), List.all_append, w_t2, ← List.take_append_drop 24 ((words1.drop 24).drop 24), List.all_append, w_t3, w_t4]
  rfl
set_option maxRecDepth 65536 in
theorem w_case : (Jvm.Cond.and given_1 narrow_1).before args0 about1 = true := by decide +kernel
theorem w_applies : (headSpec (Jvm.Cond.code x code maxLocals ret :: tables_1) room_1).applies x e0.platform about1 = true :=
  (Spec.applies_iff w_frames).mpr ⟨w_running, w_runnable, w_alone, w_named, w_hears, w_ripe, w_room, w_tables⟩
theorem atStart : AtStart classFile x code maxLocals ret World_1 tables_1 room_1 Calls_1 rest_1 Pre_1 launch0 p0 e0 about1 theMethod args0 below0 :=
  ⟨lists_1, trivial, launch0.admits_env _ _ _, launch0.least_env, fairChoices_fair.cas, fairChoices_fair.clock, w_frames, w_args, w_heap, w_applies, trivial, trivial, w_case⟩
end start1
theorem witness_1 : WitnessClaimed_1 := ⟨start1.p0, start1.e0, start1.about1, start1.theMethod, start1.args0, start1.below0, start1.atStart⟩
end Jvm.Pilot.@@N@@
