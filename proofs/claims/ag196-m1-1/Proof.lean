import JvmDerived
import JvmDerived.Pilot.@@N@@Statement
import JvmDerived.Pilot.@@N@@Code
set_option linter.unusedVariables false
set_option linter.unusedSimpArgs false
@@BLOCK:NumsL.lean.txt@@
namespace Jvm.Pilot.@@N@@
open Jvm Jvm.ClassFile Sem Op Lib Jvm.Free Jvm.Stand Jvm.LawKit Jvm.RoadKit Bundle Jvm.Pilot.@@N@@.Jvm.D
/-! OWN: the walks' own small calculus: 'Go' says that the run, standing in T with the top frame g, comes to an end that answers; every step carries a Go at the next place back to a Go at this one, so that a walk may fork and join. -/
section Own
variable {p : Program} {l : Launch} {e : Env} {R : Room} {s Z : State} {m : MethodId} {args a0 : Array Value} {below : List Frame} {meth : Method} {c : Code} {T : State} {locs : List Loc} {cells slots : Nat} {h : Heap} {P : Outcome → State → Prop}
/-- what a body must come to -/
def OwnEnd (Q : Option Value → Heap → List Loc → Prop) (s : State) (k n : Nat) (o : Outcome) (t : State) : Prop := ∃ v L, o = .returned v ∧ Q v t.heap L ∧ FrameEnd s o t L k n
def Go (p : Program) (e : Env) (below : List Frame) (P : Outcome → State → Prop) (T : State) (g : JFrame) : Prop := ∃ t o, Steps p.tables e below (T.setTop g) t ∧ t.status = .running ∧ Ended t below o ∧ P o t
theorem Go.of {T' : State} {g g' : JFrame} (k : ∀ t, Steps p.tables e below (T'.setTop g') t → Steps p.tables e below (T.setTop g) t) (K : Go p e below P T' g') : Go p e below P T g := by
  obtain ⟨t, o, h1, h2⟩ := K
  exact ⟨t, o, k t h1, h2⟩
theorem Go.joinI {g : JFrame} (X : Stand p l e R s m args below meth c T locs cells slots) (eT : T.heap = h) (v0 : Int32) (g1 : Int32 → JFrame) (K : (∀ (T' : State) (v : Int32), v = v0 → Stand p l e R s m args below meth c T' locs cells slots → T'.heap = h → Go p e below P T' (g1 v)) → Go p e below P T g)
    (J : ∀ T', Stand p l e R s m args below meth c T' locs cells slots → T'.heap = h → Go p e below P T' (g1 v0)) : Go p e below P T g := K fun T' v q X' e' => q ▸ J T' X' e'
theorem Go.joinJ {g : JFrame} (X : Stand p l e R s m args below meth c T locs cells slots) (eT : T.heap = h) (v0 : Int64) (g1 : Int64 → JFrame) (K : (∀ (T' : State) (v : Int64), v = v0 → Stand p l e R s m args below meth c T' locs cells slots → T'.heap = h → Go p e below P T' (g1 v)) → Go p e below P T g)
    (J : ∀ T', Stand p l e R s m args below meth c T' locs cells slots → T'.heap = h → Go p e below P T' (g1 v0)) : Go p e below P T g := K fun T' v q X' e' => q ▸ J T' X' e'
theorem Go.joinR {g : JFrame} (X : Stand p l e R s m args below meth c T locs cells slots) (eT : T.heap = h) (v0 : Addr) (g1 : Addr → JFrame) (K : (∀ (T' : State) (v : Addr), v = v0 → Stand p l e R s m args below meth c T' locs cells slots → T'.heap = h → Go p e below P T' (g1 v)) → Go p e below P T g)
    (J : ∀ T', Stand p l e R s m args below meth c T' locs cells slots → T'.heap = h → Go p e below P T' (g1 v0)) : Go p e below P T g := K fun T' v q X' e' => q ▸ J T' X' e'
theorem Go.cast {g g' : JFrame} (q : g = g') (K : Go p e below P T g') : Go p e below P T g := q ▸ K
theorem Go.leave (X : Stand p l e R s m args below meth c T locs cells slots) {g : JFrame} {v : Option Value} (hv : meth.sig.returnType = none → v = none) (hlk : meth.locks = false) {Q : Option Value → Heap → List Loc → Prop} {k n : Nat} (hc : cells ≤ k) (hs : slots ≤ n) (hQ : Q v T.heap locs)
    (st : ∀ fs, (∀ (f : JFrame) (acts : List Action), f.method = m → f.locked = none → f.entered = [] → (doReturn e (T.setTop f) acts v).1 = T.setFrames fs) → Steps p.tables e below (T.setTop g) (T.setFrames fs)) : Go p e below (OwnEnd Q s k n) T g := by
  obtain ⟨fs, hr, hrun, hended, hW, hsame⟩ := X.leave hv hlk
  exact ⟨_, _, st fs hr, hrun, hended, _, _, rfl, hQ, ⟨_, rfl⟩, hW, hsame.mono hc hs⟩
theorem Go.retZ (X : Stand p l e R s m args below meth c T locs cells slots) (hx : p.tables.exec = Jvm.exec) {pc pc0 : Nat} {Ls : Array Slot} {z z' : Int32} {rest : List Value} (hret : meth.sig.returnType = some .boolean) (hlk : meth.locks = false) (hd : decode c.code pc0 = .ok (.ireturn, 1)) (hpc : pc = pc0) {Q : Option Value → Heap → List Loc → Prop} {k n : Nat}
    (hz : z &&& 1 = z') (hQ : Q (some (.int z')) T.heap locs) (hc : cells ≤ k) (hs : slots ≤ n) : Go p e below (OwnEnd Q s k n) T (mkF m pc Ls (.int z :: rest)) := by
  subst hz hpc
  exact Go.leave X (v := some (.int (nar .boolean z))) (fun q => by rw [hret] at q; cases q) hlk hc hs hQ fun fs hr => retN X hx (t := .boolean) hret (by simp) hd hr
theorem Go.retW (X : Stand p l e R s m args below meth c T locs cells slots) (hx : p.tables.exec = Jvm.exec) {pc pc0 : Nat} {Ls : Array Slot} {w : Value} {t : FieldType} {i : Instr} {rest : List Value} (hret : meth.sig.returnType = some t) (hlk : meth.locks = false) (hn : narrow t w = w)
    (hi : (i = .ireturn ∧ (t = .int ∨ t = .boolean ∨ t = .byte ∨ t = .char ∨ t = .short) ∧ ∃ z, w = .int z) ∨ (i = .lreturn ∧ t = .long ∧ ∃ z, w = .long z) ∨ (i = .dreturn ∧ t = .double ∧ ∃ z, w = .double z) ∨ (i = .freturn ∧ t = .float ∧ ∃ z, w = .float z) ∨ (i = .areturn ∧ t.isReference = true ∧ w.isRef = true))
    (hd : decode c.code pc0 = .ok (i, 1)) (hpc : pc = pc0) {Q : Option Value → Heap → List Loc → Prop} {k n : Nat} (hQ : Q (some w) T.heap locs) (hc : cells ≤ k) (hs : slots ≤ n) : Go p e below (OwnEnd Q s k n) T (mkF m pc Ls (w :: rest)) := by
  subst hpc
  exact Go.leave X (v := some w) (fun q => by rw [hret] at q; cases q) hlk hc hs hQ fun fs hr => retOut X hx hret hn hi hd hr
theorem Go.retI (X : Stand p l e R s m args below meth c T locs cells slots) (hx : p.tables.exec = Jvm.exec) {pc pc0 : Nat} {Ls : Array Slot} {z : Int32} {rest : List Value} (hret : meth.sig.returnType = some .int) (hlk : meth.locks = false) (hd : decode c.code pc0 = .ok (.ireturn, 1)) (hpc : pc = pc0) {Q : Option Value → Heap → List Loc → Prop} {k n : Nat}
    (hQ : Q (some (.int z)) T.heap locs) (hc : cells ≤ k) (hs : slots ≤ n) : Go p e below (OwnEnd Q s k n) T (mkF m pc Ls (.int z :: rest)) := Go.retW X hx hret hlk rfl (Or.inl ⟨rfl, Or.inl rfl, _, rfl⟩) hd hpc hQ hc hs
theorem Go.retJ (X : Stand p l e R s m args below meth c T locs cells slots) (hx : p.tables.exec = Jvm.exec) {pc pc0 : Nat} {Ls : Array Slot} {z : Int64} {rest : List Value} (hret : meth.sig.returnType = some .long) (hlk : meth.locks = false) (hd : decode c.code pc0 = .ok (.lreturn, 1)) (hpc : pc = pc0) {Q : Option Value → Heap → List Loc → Prop} {k n : Nat}
    (hQ : Q (some (.long z)) T.heap locs) (hc : cells ≤ k) (hs : slots ≤ n) : Go p e below (OwnEnd Q s k n) T (mkF m pc Ls (.long z :: rest)) := Go.retW X hx hret hlk rfl (Or.inr (Or.inl ⟨rfl, rfl, _, rfl⟩)) hd hpc hQ hc hs
theorem Go.retA (X : Stand p l e R s m args below meth c T locs cells slots) (hx : p.tables.exec = Jvm.exec) {pc pc0 : Nat} {Ls : Array Slot} {w : Value} {t : FieldType} {rest : List Value} (hret : meth.sig.returnType = some t) (hlk : meth.locks = false) (ht : t.isReference = true) (hw : w.isRef = true) (hd : decode c.code pc0 = .ok (.areturn, 1)) (hpc : pc = pc0) {Q : Option Value → Heap → List Loc → Prop} {k n : Nat}
    (hQ : Q (some w) T.heap locs) (hc : cells ≤ k) (hs : slots ≤ n) : Go p e below (OwnEnd Q s k n) T (mkF m pc Ls (w :: rest)) := by
  refine Go.retW X hx hret hlk ?_ (Or.inr (Or.inr (Or.inr (Or.inr ⟨rfl, ht, hw⟩)))) hd hpc hQ hc hs
  rcases ref_cases hw with rfl | ⟨a, rfl⟩ <;> cases t <;> first | rfl | (simp [FieldType.isReference] at ht)
theorem Go.retV (X : Stand p l e R s m args below meth c T locs cells slots) (hx : p.tables.exec = Jvm.exec) {pc pc0 : Nat} {Ls : Array Slot} (hret : meth.sig.returnType = none) (hlk : meth.locks = false) (hd : decode c.code pc0 = .ok (.return_, 1)) (hpc : pc = pc0) {Q : Option Value → Heap → List Loc → Prop} {k n : Nat}
    (hQ : Q none T.heap locs) (hc : cells ≤ k) (hs : slots ≤ n) : Go p e below (OwnEnd Q s k n) T (mkF m pc Ls []) := by
  subst hpc
  exact Go.leave X (v := none) (fun _ => rfl) hlk hc hs hQ fun fs hr => X.returnOut hx hret hd hr
/-- a contract of a body: called on these arguments and this heap -/
def Ctr (l : Launch) (Z : State) (y : MethodName) (code : ByteArray) (mx : Nat) (ret : Option FieldType) (Rm : Room) (as' : Array Value) (h : Heap) (Q : Option Value → Heap → List Loc → Prop) : Prop :=
  ∀ ws : List Cond, MetFree l y (head1 (Cond.code y code mx ret :: ws) Rm) (fun a U => a = as' ∧ Z.Warmed39 U.vm ∧ U.heap = h) (fun _ _ _ _ _ => True) (fun _ U o U' => OwnEnd Q U Rm.cells Rm.slots o U')
theorem Ctr.of {y : MethodName} {code : ByteArray} {mx : Nat} {ret : Option FieldType} {Rm : Room} {as' : Array Value} {Q : Option Value → Heap → List Loc → Prop} (hp : plainFor y = true)
    (body : ∀ (p : Program) (e : Env) (s : State) (m : MethodId) (below : List Frame) (meth : Method) (c : Code) (s₁ : State), p.tables.exec = Jvm.exec → c.code = code → c.maxLocals = mx → s.vm.findClass y.cls = some m.cls → meth.name = y.name → meth.sig.returnType = ret → meth.locks = false → Z.Warmed39 s.vm →
      Stand p l e Rm s m as' below meth c s₁ [] 0 0 → s₁.heap = h → Go p e below (OwnEnd Q s Rm.cells Rm.slots) s₁ (entryFrame m as' mx)) : Ctr l Z y code mx ret Rm as' h Q := by
  intro ws
  refine MetFree.of_bodySF hp hisR ?_
  intro p e s m args below meth c s₁ Bd hml hP hK
  obtain ⟨rfl, hZ, hh⟩ := hP
  exact body p e s m below meth c s₁ Bd.exec Bd.bytes hml (findClass_of_methodNamed Bd.named) (name_of_methodNamed Bd.named Bd.method).1 Bd.returns Bd.notSynchronized hZ (Stand.of_body Bd) (by rw [← hh, Bd.state]; rfl)
/-- a body that returns V, writes nothing and makes nothing -/
def Pur (l : Launch) (Z : State) (y : MethodName) (code : ByteArray) (mx : Nat) (ret : Option FieldType) (fr lo : Nat) (as' : Array Value) (h : Heap) (V : Option Value) : Prop :=
  Ctr l Z y code mx ret ({ frames := fr, cells := 0, slots := 0, locals := lo } : Room) as' h fun v h' L => v = V ∧ L = [] ∧ h' = h
theorem Go.callS (X : Stand p l e R s m args below meth c T locs cells slots) (hx : p.tables.exec = Jvm.exec) (hZ : Z.Warmed39 s.vm) {own : String} {index : Nat} {y : MethodName} {bytes : ByteArray} {maxL : Nat} {ret : Option FieldType} (hown : s.vm.findClass own = some m.cls)
    (w1 : (Cond.methodLink own index y).before a0 Z = true) (w2 : (Cond.static y).before a0 Z = true) (w3 : (Cond.initialized y.cls).before a0 Z = true) (w4 : (Cond.code y bytes maxL ret).before a0 Z = true) (hy : y.cls ≠ "java/lang/invoke/MethodHandle" ∧ y.cls ≠ "java/lang/invoke/VarHandle")
    {Rm : Room} {Q : Option Value → Heap → List Loc → Prop} (argsL rest : List Value) (C : Ctr l Z y bytes maxL ret Rm argsL.toArray h Q) (eT : T.heap = h) {pc : Nat} {Ls : Array Slot} {st : List Value} (hst : st = argsL.reverse ++ rest) (hsz : Ls.size = c.maxLocals) {ps : List FieldType} {r : Option FieldType} (hpd : parseMethodDescriptor y.desc = some ⟨ps, r⟩) (hln : argsL.length = ps.length)
    (hd : decode c.code pc = .ok (.invokestatic index, 3)) (hfr : Rm.frames + 1 ≤ R.frames) (hlo : (rest.map fun v => v.category).sum + (maxL + 11) + Rm.locals ≤ R.locals) (hc : cells + Rm.cells ≤ R.cells) (hs : slots + Rm.slots ≤ R.slots)
    (K : ∀ v T' L, Stand p l e R s m args below meth c T' (locs ++ L) (cells + Rm.cells) (slots + Rm.slots) → Q v T'.heap L → Go p e below P T' (mkF m (pc + 3) Ls (v.toList ++ rest))) : Go p e below P T (mkF m pc Ls st) := by
  subst hst
  obtain ⟨v, _, ⟨T', L', k', n'⟩, -, X', ⟨L, hQ, l1, l2, l3⟩, st⟩ := Jvm.LawKit.callS X hx (y := y) hown (mvT hZ w1) (mvT hZ w2) (mvT hZ w3) (mvT hZ w4) hy (backOf (W := (rest.map fun v => v.category).sum) (Q := Q) (C []) hZ w4 w3 hfr hlo) (g := mkF m pc Ls (argsL.reverse ++ rest)) rfl hsz (argsL := argsL) (rest := rest) (lenOf hpd hln) rfl (by show 2 * 0 + _ ≤ _; omega) hd (fun _ _ => ⟨rfl, eT, hc, hs⟩)
  dsimp only [Pt.U, Pt.locs, Pt.cells, Pt.slots] at X' l1 l2 l3 st hQ
  subst l1 l2 l3
  exact Go.of st (K v T' L X' hQ)
theorem Go.pureS (X : Stand p l e R s m args below meth c T locs cells slots) (hx : p.tables.exec = Jvm.exec) (hZ : Z.Warmed39 s.vm) {own : String} {index : Nat} {y : MethodName} {bytes : ByteArray} {maxL : Nat} {ret : Option FieldType} (hown : s.vm.findClass own = some m.cls)
    (w1 : (Cond.methodLink own index y).before a0 Z = true) (w2 : (Cond.static y).before a0 Z = true) (w3 : (Cond.initialized y.cls).before a0 Z = true) (w4 : (Cond.code y bytes maxL ret).before a0 Z = true) (hy : y.cls ≠ "java/lang/invoke/MethodHandle" ∧ y.cls ≠ "java/lang/invoke/VarHandle")
    {fr lo : Nat} {V : Option Value} (argsL rest : List Value) (C : Pur l Z y bytes maxL ret fr lo argsL.toArray h V) (eT : T.heap = h) {pc : Nat} {Ls : Array Slot} {st : List Value} (hst : st = argsL.reverse ++ rest) (hsz : Ls.size = c.maxLocals) {ps : List FieldType} {r : Option FieldType} (hpd : parseMethodDescriptor y.desc = some ⟨ps, r⟩) (hln : argsL.length = ps.length)
    (hd : decode c.code pc = .ok (.invokestatic index, 3)) (hfr : fr + 1 ≤ R.frames) (hlo : (rest.map fun v => v.category).sum + (maxL + 11) + lo ≤ R.locals) (hc : cells ≤ R.cells) (hs : slots ≤ R.slots)
    (K : ∀ T', Stand p l e R s m args below meth c T' locs cells slots → T'.heap = h → Go p e below P T' (mkF m (pc + 3) Ls (V.toList ++ rest))) : Go p e below P T (mkF m pc Ls st) := by
  refine Go.callS X hx hZ hown w1 w2 w3 w4 hy argsL rest C eT hst hsz hpd hln hd hfr hlo hc hs ?_
  rintro v T' L X' ⟨rfl, rfl, e'⟩
  rw [List.append_nil] at X'
  exact K T' X' e'
theorem Go.callV (X : Stand p l e R s m args below meth c T locs cells slots) (hx : p.tables.exec = Jvm.exec) (hZ : Z.Warmed39 s.vm) {own C : String} {index : Nat} {y z : MethodName} {bytes : ByteArray} {maxL : Nat} {ret : Option FieldType} (hown : s.vm.findClass own = some m.cls)
    (w1 : (Cond.methodLink own index y).before a0 Z = true) (w2 : (Cond.declares y).before a0 Z = true) (hnf : NotFace s y) (w3 : (Cond.selects C y z).before a0 Z = true) (w4 : (Cond.instanceMethod z).before a0 Z = true) (w5 : (Cond.initialized z.cls).before a0 Z = true) (w6 : (Cond.code z bytes maxL ret).before a0 Z = true) (hy : y.cls ≠ "java/lang/invoke/MethodHandle" ∧ y.cls ≠ "java/lang/invoke/VarHandle")
    {Rm : Room} {Q : Option Value → Heap → List Loc → Prop} {b : Addr} (argsL rest : List Value) (E : Exa Z h b C) (Ct : Ctr l Z z bytes maxL ret Rm (.ref b :: argsL).toArray h Q) (eT : T.heap = h) {pc : Nat} {Ls : Array Slot} {st : List Value} (hst : st = argsL.reverse ++ .ref b :: rest) (hsz : Ls.size = c.maxLocals) {ps : List FieldType} {r : Option FieldType} (hpd : parseMethodDescriptor y.desc = some ⟨ps, r⟩) (hln : argsL.length = ps.length)
    (hd : decode c.code pc = .ok (.invokevirtual index, 3)) (hfr : Rm.frames + 1 ≤ R.frames) (hlo : (rest.map fun v => v.category).sum + (maxL + 11) + Rm.locals ≤ R.locals) (hc : cells + Rm.cells ≤ R.cells) (hs : slots + Rm.slots ≤ R.slots)
    (K : ∀ v T' L, Stand p l e R s m args below meth c T' (locs ++ L) (cells + Rm.cells) (slots + Rm.slots) → Q v T'.heap L → Go p e below P T' (mkF m (pc + 3) Ls (v.toList ++ rest))) : Go p e below P T (mkF m pc Ls st) := by
  subst hst
  obtain ⟨cq, kq, q1, q2, q3⟩ := isOf hZ eT E
  obtain ⟨v, _, ⟨T', L', k', n'⟩, -, X', ⟨L, hQ, l1, l2, l3⟩, st⟩ := X.virtualBack hx (y := y) (z := z) hown (mvT hZ w1) (mvT hZ w2) hnf (mvT hZ w3) (mvT hZ w4) hy (backOf (W := (rest.map fun v => v.category).sum) (Q := Q) (Ct []) hZ w6 w5 hfr hlo) q1 q3 (g := mkF m pc Ls (argsL.reverse ++ .ref b :: rest)) rfl hsz (Steps.refl _) (argsL := argsL) (rest := rest) (lenOf hpd hln) rfl (by show 2 * 0 + _ ≤ _; omega) hd (fun _ _ => ⟨rfl, eT, hc, hs⟩)
  dsimp only [Pt.U, Pt.locs, Pt.cells, Pt.slots] at X' l1 l2 l3 st hQ
  subst l1 l2 l3
  exact Go.of (fun _ k => st.trans k) (K v T' L X' hQ)
theorem Go.pureV (X : Stand p l e R s m args below meth c T locs cells slots) (hx : p.tables.exec = Jvm.exec) (hZ : Z.Warmed39 s.vm) {own C : String} {index : Nat} {y z : MethodName} {bytes : ByteArray} {maxL : Nat} {ret : Option FieldType} (hown : s.vm.findClass own = some m.cls)
    (w1 : (Cond.methodLink own index y).before a0 Z = true) (w2 : (Cond.declares y).before a0 Z = true) (hnf : NotFace s y) (w3 : (Cond.selects C y z).before a0 Z = true) (w4 : (Cond.instanceMethod z).before a0 Z = true) (w5 : (Cond.initialized z.cls).before a0 Z = true) (w6 : (Cond.code z bytes maxL ret).before a0 Z = true) (hy : y.cls ≠ "java/lang/invoke/MethodHandle" ∧ y.cls ≠ "java/lang/invoke/VarHandle")
    {fr lo : Nat} {V : Option Value} {b : Addr} (argsL rest : List Value) (E : Exa Z h b C) (Ct : Pur l Z z bytes maxL ret fr lo (.ref b :: argsL).toArray h V) (eT : T.heap = h) {pc : Nat} {Ls : Array Slot} {st : List Value} (hst : st = argsL.reverse ++ .ref b :: rest) (hsz : Ls.size = c.maxLocals) {ps : List FieldType} {r : Option FieldType} (hpd : parseMethodDescriptor y.desc = some ⟨ps, r⟩) (hln : argsL.length = ps.length)
    (hd : decode c.code pc = .ok (.invokevirtual index, 3)) (hfr : fr + 1 ≤ R.frames) (hlo : (rest.map fun v => v.category).sum + (maxL + 11) + lo ≤ R.locals) (hc : cells ≤ R.cells) (hs : slots ≤ R.slots)
    (K : ∀ T', Stand p l e R s m args below meth c T' locs cells slots → T'.heap = h → Go p e below P T' (mkF m (pc + 3) Ls (V.toList ++ rest))) : Go p e below P T (mkF m pc Ls st) := by
  refine Go.callV X hx hZ hown w1 w2 hnf w3 w4 w5 w6 hy argsL rest E Ct eT hst hsz hpd hln hd hfr hlo hc hs ?_
  rintro v T' L X' ⟨rfl, rfl, e'⟩
  rw [List.append_nil] at X'
  exact K T' X' e'
theorem Go.callU (X : Stand p l e R s m args below meth c T locs cells slots) (hx : p.tables.exec = Jvm.exec) (hZ : Z.Warmed39 s.vm) {own C ow : String} {index : Nat} {y z : MethodName} {bytes : ByteArray} {maxL : Nat} {ret : Option FieldType} (hown : s.vm.findClass own = some m.cls)
    (w1 : (Cond.methodLink own index y).before a0 Z = true) (w2 : (Cond.sameMethod y.cls ow y.name y.desc).before a0 Z = true) (w2' : (Cond.declares ⟨ow, y.name, y.desc⟩).before a0 Z = true) (w3 : (Cond.selects C y z).before a0 Z = true) (w4 : (Cond.instanceMethod z).before a0 Z = true) (w5 : (Cond.initialized z.cls).before a0 Z = true) (w6 : (Cond.code z bytes maxL ret).before a0 Z = true) (hy : ow ≠ "java/lang/invoke/MethodHandle" ∧ ow ≠ "java/lang/invoke/VarHandle")
    {Rm : Room} {Q : Option Value → Heap → List Loc → Prop} {b : Addr} (argsL rest : List Value) (E : Exa Z h b C) (Ct : Ctr l Z z bytes maxL ret Rm (.ref b :: argsL).toArray h Q) (eT : T.heap = h) {pc : Nat} {Ls : Array Slot} {st : List Value} (hst : st = argsL.reverse ++ .ref b :: rest) (hsz : Ls.size = c.maxLocals) {ps : List FieldType} {r : Option FieldType} (hpd : parseMethodDescriptor y.desc = some ⟨ps, r⟩) (hln : argsL.length = ps.length)
    (hd : decode c.code pc = .ok (.invokevirtual index, 3)) (hfr : Rm.frames + 1 ≤ R.frames) (hlo : (rest.map fun v => v.category).sum + (maxL + 11) + Rm.locals ≤ R.locals) (hc : cells + Rm.cells ≤ R.cells) (hs : slots + Rm.slots ≤ R.slots)
    (K : ∀ v T' L, Stand p l e R s m args below meth c T' (locs ++ L) (cells + Rm.cells) (slots + Rm.slots) → Q v T'.heap L → Go p e below P T' (mkF m (pc + 3) Ls (v.toList ++ rest))) : Go p e below P T (mkF m pc Ls st) := by
  subst hst
  obtain ⟨cq, kq, q1, q2, q3⟩ := isOf hZ eT E
  obtain ⟨v, _, ⟨T', L', k', n'⟩, -, X', ⟨L, hQ, l1, l2, l3⟩, st⟩ := X.virtualBackUp hx (x := y) (y := z) (owner := ow) hown (mvT hZ w1) (mvT hZ w2) (mvT hZ w2') hy (mvT hZ w3) (mvT hZ w4) (backOf (W := (rest.map fun v => v.category).sum) (Q := Q) (Ct []) hZ w6 w5 hfr hlo) q1 q3 (g := mkF m pc Ls (argsL.reverse ++ .ref b :: rest)) rfl hsz (Steps.refl _) (argsL := argsL) (rest := rest) (lenOf hpd hln) rfl (by show 2 * 0 + _ ≤ _; omega) hd (fun _ _ => ⟨rfl, eT, hc, hs⟩)
  dsimp only [Pt.U, Pt.locs, Pt.cells, Pt.slots] at X' l1 l2 l3 st hQ
  subst l1 l2 l3
  exact Go.of (fun _ k => st.trans k) (K v T' L X' hQ)
theorem Go.pureU (X : Stand p l e R s m args below meth c T locs cells slots) (hx : p.tables.exec = Jvm.exec) (hZ : Z.Warmed39 s.vm) {own C ow : String} {index : Nat} {y z : MethodName} {bytes : ByteArray} {maxL : Nat} {ret : Option FieldType} (hown : s.vm.findClass own = some m.cls)
    (w1 : (Cond.methodLink own index y).before a0 Z = true) (w2 : (Cond.sameMethod y.cls ow y.name y.desc).before a0 Z = true) (w2' : (Cond.declares ⟨ow, y.name, y.desc⟩).before a0 Z = true) (w3 : (Cond.selects C y z).before a0 Z = true) (w4 : (Cond.instanceMethod z).before a0 Z = true) (w5 : (Cond.initialized z.cls).before a0 Z = true) (w6 : (Cond.code z bytes maxL ret).before a0 Z = true) (hy : ow ≠ "java/lang/invoke/MethodHandle" ∧ ow ≠ "java/lang/invoke/VarHandle")
    {fr lo : Nat} {V : Option Value} {b : Addr} (argsL rest : List Value) (E : Exa Z h b C) (Ct : Pur l Z z bytes maxL ret fr lo (.ref b :: argsL).toArray h V) (eT : T.heap = h) {pc : Nat} {Ls : Array Slot} {st : List Value} (hst : st = argsL.reverse ++ .ref b :: rest) (hsz : Ls.size = c.maxLocals) {ps : List FieldType} {r : Option FieldType} (hpd : parseMethodDescriptor y.desc = some ⟨ps, r⟩) (hln : argsL.length = ps.length)
    (hd : decode c.code pc = .ok (.invokevirtual index, 3)) (hfr : fr + 1 ≤ R.frames) (hlo : (rest.map fun v => v.category).sum + (maxL + 11) + lo ≤ R.locals) (hc : cells ≤ R.cells) (hs : slots ≤ R.slots)
    (K : ∀ T', Stand p l e R s m args below meth c T' locs cells slots → T'.heap = h → Go p e below P T' (mkF m (pc + 3) Ls (V.toList ++ rest))) : Go p e below P T (mkF m pc Ls st) := by
  refine Go.callU X hx hZ hown w1 w2 w2' w3 w4 w5 w6 hy argsL rest E Ct eT hst hsz hpd hln hd hfr hlo hc hs ?_
  rintro v T' L X' ⟨rfl, rfl, e'⟩
  rw [List.append_nil] at X'
  exact K T' X' e'
theorem Go.callI (X : Stand p l e R s m args below meth c T locs cells slots) (hx : p.tables.exec = Jvm.exec) (hZ : Z.Warmed39 s.vm) {own : String} {index : Nat} {y : MethodName} {bytes : ByteArray} {maxL : Nat} (hyn : y.name = "<init>") (hown : s.vm.findClass own = some m.cls)
    (w1 : (Cond.methodLink own index y).before a0 Z = true) (w2 : (Cond.instanceMethod y).before a0 Z = true) (w3 : (Cond.initialized y.cls).before a0 Z = true) (w4 : (Cond.code y bytes maxL none).before a0 Z = true) (hy : y.cls ≠ "java/lang/invoke/MethodHandle" ∧ y.cls ≠ "java/lang/invoke/VarHandle")
    {Rm : Room} {Q : Option Value → Heap → List Loc → Prop} {b : Addr} (argsL rest : List Value) (C : Ctr l Z y bytes maxL none Rm (.ref b :: argsL).toArray h Q) (eT : T.heap = h) {pc : Nat} {Ls : Array Slot} {st : List Value} (hst : st = argsL.reverse ++ .ref b :: rest) (hsz : Ls.size = c.maxLocals) {ps : List FieldType} {r : Option FieldType} (hpd : parseMethodDescriptor y.desc = some ⟨ps, r⟩) (hln : argsL.length = ps.length)
    (hd : decode c.code pc = .ok (.invokespecial index, 3)) (hfr : Rm.frames + 1 ≤ R.frames) (hlo : (rest.map fun v => v.category).sum + (maxL + 11) + Rm.locals ≤ R.locals) (hc : cells + Rm.cells ≤ R.cells) (hs : slots + Rm.slots ≤ R.slots)
    (K : ∀ v T' L, Stand p l e R s m args below meth c T' (locs ++ L) (cells + Rm.cells) (slots + Rm.slots) → Q v T'.heap L → Go p e below P T' (mkF m (pc + 3) Ls (v.toList ++ rest))) : Go p e below P T (mkF m pc Ls st) := by
  subst hst
  obtain ⟨v, _, ⟨T', L', k', n'⟩, -, X', ⟨L, hQ, l1, l2, l3⟩, st⟩ := X.specialBack hx (y := y) hyn hown (mvT hZ w1) (mvT hZ w2) (mvT hZ w4) hy (backOf (W := (rest.map fun v => v.category).sum) (Q := Q) (C []) hZ w4 w3 hfr hlo) (g := mkF m pc Ls (argsL.reverse ++ .ref b :: rest)) rfl hsz (Steps.refl _) (a := b) (argsL := argsL) (rest := rest) (lenOf hpd hln) rfl (by show 2 * 0 + _ ≤ _; omega) hd (fun _ _ => ⟨rfl, eT, hc, hs⟩)
  dsimp only [Pt.U, Pt.locs, Pt.cells, Pt.slots] at X' l1 l2 l3 st hQ
  subst l1 l2 l3
  exact Go.of (fun _ k => st.trans k) (K v T' L X' hQ)
end Own
theorem own_nf {args : Array Value} {s : State} {C : String} {y y' : MethodName} (hc : y.cls = y'.cls) (hsel : (Cond.selects C y' y').before args s = true) : NotFace s y := fun r0 h0 => by
  obtain ⟨c2, r2, m2, q1, q2, q3, q4, kP, hkP, hkPi⟩ := Cond.selects_spec hsel
  have e1 := findClass_of_methodNamed h0
  have e2 := findClass_of_methodNamed q3
  rw [hc] at e1
  have e3 : r0.cls = m2.cls := Option.some.inj (e1.symm.trans e2)
  exact ⟨kP, e3 ▸ hkP, hkPi⟩
section OwnWords
variable {args : Array Value} {s : State} {a b t i : Term} {v : Value}
theorem own_eqv (g : (Cond.eq a b).value args s none s [] = some true) (hb : b.eval args s none [] s = some v) : a.eval args s none [] s = some v := by
  cases ha : a.eval args s none [] s with
  | none => simp [Cond.value, ha] at g
  | some x => cases x <;> cases v <;> simp [Cond.value, ha, hb] at g ⊢ <;> exact g
theorem own_len {x : Addr} {cl : Cell} {ty : FieldType} {n : Int32} (A : Arr s s.heap x cl ty) (ht : t.eval args s none [] s = some (.ref x)) (g : (Term.length t).eval args s none [] s = some (.int n)) : cl.slots.size < 2 ^ 31 ∧ cl.slots.size.toInt32 = n := by
  have q := A.fin (Vm.Alike.refl _)
  by_cases hl : cl.slots.size < 2 ^ 31
  · refine ⟨hl, ?_⟩
    have e := len_f (args := args) (first := s) (o := none) (idx := []) ht q hl
    exact Value.int.inj (Option.some.inj (e.symm.trans g))
  · simp [Term.eval, ht, q, hl] at g
theorem own_elem {x : Addr} {cl : Cell} {ty : FieldType} {j : Int32} {k : Nat} (A : Arr s s.heap x cl ty) (ht : t.eval args s none [] s = some (.ref x)) (hk : j.toNatClampNeg = k) (g : (Term.elem t (.int j)).eval args s none [] s = some v) : cl.slots[k]? = some v := by
  have e := (elem_in (j := j) (a := .int j) g ht rfl A.1).2
  rw [hk] at e; exact e
end OwnWords
section OwnSteps
variable {p : Program} {l : Launch} {e : Env} {R : Room} {s Z : State} {m : MethodId} {args a0 : Array Value} {below : List Frame} {meth : Method} {c : Code} {T : State} {locs : List Loc} {cells slots : Nat} {h : Heap} {P : Outcome → State → Prop} {pc pc0 : Nat} {Ls : Array Slot} {st : List Value}
theorem Go.iload (X : Stand p l e R s m args below meth c T locs cells slots) (hx : p.tables.exec = Jvm.exec) {k : Nat} {v : Int32} (hd : decode c.code pc0 = .ok (.iload k, 2)) (hpc : pc = pc0) (hl : Ls[k]? = some (.val (.int v))) (K : Go p e below P T (mkF m (pc0 + 2) Ls (.int v :: st))) : Go p e below P T (mkF m pc Ls (st)) := by
  subst hpc
  exact Go.of (fun _ q => XS.iload X.here hx rfl hd hl q) K
theorem Go.iloadN (X : Stand p l e R s m args below meth c T locs cells slots) (hx : p.tables.exec = Jvm.exec) {k : Fin 4} {v : Int32} (hd : decode c.code pc0 = .ok (.iload_n k, 1)) (hpc : pc = pc0) (hl : Ls[k.val]? = some (.val (.int v))) (K : Go p e below P T (mkF m (pc0 + 1) Ls (.int v :: st))) : Go p e below P T (mkF m pc Ls (st)) := by
  subst hpc
  exact Go.of (fun _ q => XS.iloadN X.here hx rfl hd hl q) K
theorem Go.istore (X : Stand p l e R s m args below meth c T locs cells slots) (hx : p.tables.exec = Jvm.exec) {k : Nat} {v : Int32} (hd : decode c.code pc0 = .ok (.istore k, 2)) (hpc : pc = pc0) (l' : Array Slot) (hl : storeLocals Ls k (.int v) = some l') (K : Go p e below P T (mkF m (pc0 + 2) l' (st))) : Go p e below P T (mkF m pc Ls (.int v :: st)) := by
  subst hpc
  exact Go.of (fun _ q => XS.istore X.here hx rfl hd rfl hl q) K
theorem Go.istoreN (X : Stand p l e R s m args below meth c T locs cells slots) (hx : p.tables.exec = Jvm.exec) {k : Fin 4} {v : Int32} (hd : decode c.code pc0 = .ok (.istore_n k, 1)) (hpc : pc = pc0) (l' : Array Slot) (hl : storeLocals Ls k.val (.int v) = some l') (K : Go p e below P T (mkF m (pc0 + 1) l' (st))) : Go p e below P T (mkF m pc Ls (.int v :: st)) := by
  subst hpc
  exact Go.of (fun _ q => XS.istoreN X.here hx rfl hd rfl hl q) K
theorem Go.lload (X : Stand p l e R s m args below meth c T locs cells slots) (hx : p.tables.exec = Jvm.exec) {k : Nat} {v : Int64} (hd : decode c.code pc0 = .ok (.lload k, 2)) (hpc : pc = pc0) (hl : Ls[k]? = some (.val (.long v))) (K : Go p e below P T (mkF m (pc0 + 2) Ls (.long v :: st))) : Go p e below P T (mkF m pc Ls (st)) := by
  subst hpc
  exact Go.of (fun _ q => XS.lload X.here hx rfl hd hl q) K
theorem Go.lloadN (X : Stand p l e R s m args below meth c T locs cells slots) (hx : p.tables.exec = Jvm.exec) {k : Fin 4} {v : Int64} (hd : decode c.code pc0 = .ok (.lload_n k, 1)) (hpc : pc = pc0) (hl : Ls[k.val]? = some (.val (.long v))) (K : Go p e below P T (mkF m (pc0 + 1) Ls (.long v :: st))) : Go p e below P T (mkF m pc Ls (st)) := by
  subst hpc
  exact Go.of (fun _ q => XS.lloadN X.here hx rfl hd hl q) K
theorem Go.lstore (X : Stand p l e R s m args below meth c T locs cells slots) (hx : p.tables.exec = Jvm.exec) {k : Nat} {v : Int64} (hd : decode c.code pc0 = .ok (.lstore k, 2)) (hpc : pc = pc0) (l' : Array Slot) (hl : storeLocals Ls k (.long v) = some l') (K : Go p e below P T (mkF m (pc0 + 2) l' (st))) : Go p e below P T (mkF m pc Ls (.long v :: st)) := by
  subst hpc
  exact Go.of (fun _ q => XS.lstore X.here hx rfl hd rfl hl q) K
theorem Go.lstoreN (X : Stand p l e R s m args below meth c T locs cells slots) (hx : p.tables.exec = Jvm.exec) {k : Fin 4} {v : Int64} (hd : decode c.code pc0 = .ok (.lstore_n k, 1)) (hpc : pc = pc0) (l' : Array Slot) (hl : storeLocals Ls k.val (.long v) = some l') (K : Go p e below P T (mkF m (pc0 + 1) l' (st))) : Go p e below P T (mkF m pc Ls (.long v :: st)) := by
  subst hpc
  exact Go.of (fun _ q => XS.lstoreN X.here hx rfl hd rfl hl q) K
theorem Go.aload (X : Stand p l e R s m args below meth c T locs cells slots) (hx : p.tables.exec = Jvm.exec) {k : Nat} {v : Value} (hd : decode c.code pc0 = .ok (.aload k, 2)) (hpc : pc = pc0) (hl : Ls[k]? = some (.val v)) (hv : v.isRef = true) (K : Go p e below P T (mkF m (pc0 + 2) Ls (v :: st))) : Go p e below P T (mkF m pc Ls (st)) := by
  subst hpc
  exact Go.of (fun _ q => XS.aload X.here hx rfl hd hl hv q) K
theorem Go.aloadN (X : Stand p l e R s m args below meth c T locs cells slots) (hx : p.tables.exec = Jvm.exec) {k : Fin 4} {v : Value} (hd : decode c.code pc0 = .ok (.aload_n k, 1)) (hpc : pc = pc0) (hl : Ls[k.val]? = some (.val v)) (hv : v.isRef = true) (K : Go p e below P T (mkF m (pc0 + 1) Ls (v :: st))) : Go p e below P T (mkF m pc Ls (st)) := by
  subst hpc
  exact Go.of (fun _ q => XS.aloadN X.here hx rfl hd hl hv q) K
theorem Go.astore (X : Stand p l e R s m args below meth c T locs cells slots) (hx : p.tables.exec = Jvm.exec) {k : Nat} {v : Value} (hd : decode c.code pc0 = .ok (.astore k, 2)) (hpc : pc = pc0) (hv : v.isRef = true) (l' : Array Slot) (hl : storeLocals Ls k v = some l') (K : Go p e below P T (mkF m (pc0 + 2) l' (st))) : Go p e below P T (mkF m pc Ls (v :: st)) := by
  subst hpc
  exact Go.of (fun _ q => XS.astore X.here hx rfl hd rfl hv hl q) K
theorem Go.astoreN (X : Stand p l e R s m args below meth c T locs cells slots) (hx : p.tables.exec = Jvm.exec) {k : Fin 4} {v : Value} (hd : decode c.code pc0 = .ok (.astore_n k, 1)) (hpc : pc = pc0) (hv : v.isRef = true) (l' : Array Slot) (hl : storeLocals Ls k.val v = some l') (K : Go p e below P T (mkF m (pc0 + 1) l' (st))) : Go p e below P T (mkF m pc Ls (v :: st)) := by
  subst hpc
  exact Go.of (fun _ q => XS.astoreN X.here hx rfl hd rfl hv hl q) K
theorem Go.iconst (X : Stand p l e R s m args below meth c T locs cells slots) (hx : p.tables.exec = Jvm.exec) {i : Int} (hd : decode c.code pc0 = .ok (.iconst i, 1)) (hpc : pc = pc0) (v : Int32) (hv : Int32.ofInt i = v) (K : Go p e below P T (mkF m (pc0 + 1) Ls (.int v :: st))) : Go p e below P T (mkF m pc Ls (st)) := by
  subst hpc
  subst hv
  exact Go.of (fun _ q => XS.iconst X.here hx rfl hd q) K
theorem Go.bipush (X : Stand p l e R s m args below meth c T locs cells slots) (hx : p.tables.exec = Jvm.exec) {i : Int} (hd : decode c.code pc0 = .ok (.bipush i, 2)) (hpc : pc = pc0) (v : Int32) (hv : (Int8.ofInt i).toInt32 = v) (K : Go p e below P T (mkF m (pc0 + 2) Ls (.int v :: st))) : Go p e below P T (mkF m pc Ls (st)) := by
  subst hpc
  subst hv
  exact Go.of (fun _ q => XS.bipush X.here hx rfl hd q) K
theorem Go.sipush (X : Stand p l e R s m args below meth c T locs cells slots) (hx : p.tables.exec = Jvm.exec) {i : Int} (hd : decode c.code pc0 = .ok (.sipush i, 3)) (hpc : pc = pc0) (v : Int32) (hv : (Int16.ofInt i).toInt32 = v) (K : Go p e below P T (mkF m (pc0 + 3) Ls (.int v :: st))) : Go p e below P T (mkF m pc Ls (st)) := by
  subst hpc
  subst hv
  exact Go.of (fun _ q => XS.sipush X.here hx rfl hd q) K
theorem Go.lconst (X : Stand p l e R s m args below meth c T locs cells slots) (hx : p.tables.exec = Jvm.exec) {k : Fin 2} (hd : decode c.code pc0 = .ok (.lconst k, 1)) (hpc : pc = pc0) (v : Int64) (hv : Int64.ofNat k = v) (K : Go p e below P T (mkF m (pc0 + 1) Ls (.long v :: st))) : Go p e below P T (mkF m pc Ls (st)) := by
  subst hpc
  subst hv
  exact Go.of (fun _ q => XS.lconst X.here hx rfl hd q) K
theorem Go.aconstNull (X : Stand p l e R s m args below meth c T locs cells slots) (hx : p.tables.exec = Jvm.exec)  (hd : decode c.code pc0 = .ok (.aconst_null, 1)) (hpc : pc = pc0)  (K : Go p e below P T (mkF m (pc0 + 1) Ls (.null :: st))) : Go p e below P T (mkF m pc Ls (st)) := by
  subst hpc
  exact Go.of (fun _ q => XS.aconstNull X.here hx rfl hd q) K
theorem Go.iadd (X : Stand p l e R s m args below meth c T locs cells slots) (hx : p.tables.exec = Jvm.exec) {x y : Int32} (hd : decode c.code pc0 = .ok (.iadd, 1)) (hpc : pc = pc0)  (K : Go p e below P T (mkF m (pc0 + 1) Ls (.int (x + y) :: st))) : Go p e below P T (mkF m pc Ls (.int y :: .int x :: st)) := by
  subst hpc
  exact Go.of (fun _ q => XS.iadd X.here hx rfl hd rfl q) K
theorem Go.isub (X : Stand p l e R s m args below meth c T locs cells slots) (hx : p.tables.exec = Jvm.exec) {x y : Int32} (hd : decode c.code pc0 = .ok (.isub, 1)) (hpc : pc = pc0)  (K : Go p e below P T (mkF m (pc0 + 1) Ls (.int (x - y) :: st))) : Go p e below P T (mkF m pc Ls (.int y :: .int x :: st)) := by
  subst hpc
  exact Go.of (fun _ q => XS.isub X.here hx rfl hd rfl q) K
theorem Go.imul (X : Stand p l e R s m args below meth c T locs cells slots) (hx : p.tables.exec = Jvm.exec) {x y : Int32} (hd : decode c.code pc0 = .ok (.imul, 1)) (hpc : pc = pc0)  (K : Go p e below P T (mkF m (pc0 + 1) Ls (.int (x * y) :: st))) : Go p e below P T (mkF m pc Ls (.int y :: .int x :: st)) := by
  subst hpc
  exact Go.of (fun _ q => XS.imul X.here hx rfl hd rfl q) K
theorem Go.iand (X : Stand p l e R s m args below meth c T locs cells slots) (hx : p.tables.exec = Jvm.exec) {x y : Int32} (hd : decode c.code pc0 = .ok (.iand, 1)) (hpc : pc = pc0)  (K : Go p e below P T (mkF m (pc0 + 1) Ls (.int (x &&& y) :: st))) : Go p e below P T (mkF m pc Ls (.int y :: .int x :: st)) := by
  subst hpc
  exact Go.of (fun _ q => XS.iand X.here hx rfl hd rfl q) K
theorem Go.ior (X : Stand p l e R s m args below meth c T locs cells slots) (hx : p.tables.exec = Jvm.exec) {x y : Int32} (hd : decode c.code pc0 = .ok (.ior, 1)) (hpc : pc = pc0)  (K : Go p e below P T (mkF m (pc0 + 1) Ls (.int (x ||| y) :: st))) : Go p e below P T (mkF m pc Ls (.int y :: .int x :: st)) := by
  subst hpc
  exact Go.of (fun _ q => XS.ior X.here hx rfl hd rfl q) K
theorem Go.ixor (X : Stand p l e R s m args below meth c T locs cells slots) (hx : p.tables.exec = Jvm.exec) {x y : Int32} (hd : decode c.code pc0 = .ok (.ixor, 1)) (hpc : pc = pc0)  (K : Go p e below P T (mkF m (pc0 + 1) Ls (.int (x ^^^ y) :: st))) : Go p e below P T (mkF m pc Ls (.int y :: .int x :: st)) := by
  subst hpc
  exact Go.of (fun _ q => XS.ixor X.here hx rfl hd rfl q) K
theorem Go.idiv (X : Stand p l e R s m args below meth c T locs cells slots) (hx : p.tables.exec = Jvm.exec) {x y : Int32} (hd : decode c.code pc0 = .ok (.idiv, 1)) (hpc : pc = pc0) (hy : y ≠ 0) (K : Go p e below P T (mkF m (pc0 + 1) Ls (.int (x / y) :: st))) : Go p e below P T (mkF m pc Ls (.int y :: .int x :: st)) := by
  subst hpc
  exact Go.of (fun _ q => XS.idiv X.here hx rfl hd rfl hy q) K
theorem Go.ineg (X : Stand p l e R s m args below meth c T locs cells slots) (hx : p.tables.exec = Jvm.exec) {x : Int32} (hd : decode c.code pc0 = .ok (.ineg, 1)) (hpc : pc = pc0)  (K : Go p e below P T (mkF m (pc0 + 1) Ls (.int (-x) :: st))) : Go p e below P T (mkF m pc Ls (.int x :: st)) := by
  subst hpc
  exact Go.of (fun _ q => XS.ineg X.here hx rfl hd rfl q) K
theorem Go.ladd (X : Stand p l e R s m args below meth c T locs cells slots) (hx : p.tables.exec = Jvm.exec) {x y : Int64} (hd : decode c.code pc0 = .ok (.ladd, 1)) (hpc : pc = pc0)  (K : Go p e below P T (mkF m (pc0 + 1) Ls (.long (x + y) :: st))) : Go p e below P T (mkF m pc Ls (.long y :: .long x :: st)) := by
  subst hpc
  exact Go.of (fun _ q => XS.ladd X.here hx rfl hd rfl q) K
theorem Go.lsub (X : Stand p l e R s m args below meth c T locs cells slots) (hx : p.tables.exec = Jvm.exec) {x y : Int64} (hd : decode c.code pc0 = .ok (.lsub, 1)) (hpc : pc = pc0)  (K : Go p e below P T (mkF m (pc0 + 1) Ls (.long (x - y) :: st))) : Go p e below P T (mkF m pc Ls (.long y :: .long x :: st)) := by
  subst hpc
  exact Go.of (fun _ q => XS.lsub X.here hx rfl hd rfl q) K
theorem Go.lmul (X : Stand p l e R s m args below meth c T locs cells slots) (hx : p.tables.exec = Jvm.exec) {x y : Int64} (hd : decode c.code pc0 = .ok (.lmul, 1)) (hpc : pc = pc0)  (K : Go p e below P T (mkF m (pc0 + 1) Ls (.long (x * y) :: st))) : Go p e below P T (mkF m pc Ls (.long y :: .long x :: st)) := by
  subst hpc
  exact Go.of (fun _ q => XS.lmul X.here hx rfl hd rfl q) K
theorem Go.land (X : Stand p l e R s m args below meth c T locs cells slots) (hx : p.tables.exec = Jvm.exec) {x y : Int64} (hd : decode c.code pc0 = .ok (.land, 1)) (hpc : pc = pc0)  (K : Go p e below P T (mkF m (pc0 + 1) Ls (.long (x &&& y) :: st))) : Go p e below P T (mkF m pc Ls (.long y :: .long x :: st)) := by
  subst hpc
  exact Go.of (fun _ q => XS.land X.here hx rfl hd rfl q) K
theorem Go.lor (X : Stand p l e R s m args below meth c T locs cells slots) (hx : p.tables.exec = Jvm.exec) {x y : Int64} (hd : decode c.code pc0 = .ok (.lor, 1)) (hpc : pc = pc0)  (K : Go p e below P T (mkF m (pc0 + 1) Ls (.long (x ||| y) :: st))) : Go p e below P T (mkF m pc Ls (.long y :: .long x :: st)) := by
  subst hpc
  exact Go.of (fun _ q => XS.lor X.here hx rfl hd rfl q) K
theorem Go.lxor (X : Stand p l e R s m args below meth c T locs cells slots) (hx : p.tables.exec = Jvm.exec) {x y : Int64} (hd : decode c.code pc0 = .ok (.lxor, 1)) (hpc : pc = pc0)  (K : Go p e below P T (mkF m (pc0 + 1) Ls (.long (x ^^^ y) :: st))) : Go p e below P T (mkF m pc Ls (.long y :: .long x :: st)) := by
  subst hpc
  exact Go.of (fun _ q => XS.lxor X.here hx rfl hd rfl q) K
theorem Go.ldiv (X : Stand p l e R s m args below meth c T locs cells slots) (hx : p.tables.exec = Jvm.exec) {x y : Int64} (hd : decode c.code pc0 = .ok (.ldiv, 1)) (hpc : pc = pc0) (hy : y ≠ 0) (K : Go p e below P T (mkF m (pc0 + 1) Ls (.long (x / y) :: st))) : Go p e below P T (mkF m pc Ls (.long y :: .long x :: st)) := by
  subst hpc
  exact Go.of (fun _ q => XS.ldiv X.here hx rfl hd rfl hy q) K
theorem Go.lneg (X : Stand p l e R s m args below meth c T locs cells slots) (hx : p.tables.exec = Jvm.exec) {x : Int64} (hd : decode c.code pc0 = .ok (.lneg, 1)) (hpc : pc = pc0)  (K : Go p e below P T (mkF m (pc0 + 1) Ls (.long (-x) :: st))) : Go p e below P T (mkF m pc Ls (.long x :: st)) := by
  subst hpc
  exact Go.of (fun _ q => XS.lneg X.here hx rfl hd rfl q) K
theorem Go.irem (X : Stand p l e R s m args below meth c T locs cells slots) (hx : p.tables.exec = Jvm.exec) {x y : Int32} (hd : decode c.code pc0 = .ok (.irem, 1)) (hpc : pc = pc0) (hy : y ≠ 0) (K : Go p e below P T (mkF m (pc0 + 1) Ls (.int (x % y) :: st))) : Go p e below P T (mkF m pc Ls (.int y :: .int x :: st)) := by
  subst hpc
  exact Go.of (fun _ q => iremM X hx rfl hd rfl hy q) K
theorem Go.lrem (X : Stand p l e R s m args below meth c T locs cells slots) (hx : p.tables.exec = Jvm.exec) {x y : Int64} (hd : decode c.code pc0 = .ok (.lrem, 1)) (hpc : pc = pc0) (hy : y ≠ 0) (K : Go p e below P T (mkF m (pc0 + 1) Ls (.long (x - (x / y) * y) :: st))) : Go p e below P T (mkF m pc Ls (.long y :: .long x :: st)) := by
  subst hpc
  exact Go.of (fun _ q => XS.lrem X.here hx rfl hd rfl hy q) K
theorem Go.ishl (X : Stand p l e R s m args below meth c T locs cells slots) (hx : p.tables.exec = Jvm.exec) {x y : Int32} (hd : decode c.code pc0 = .ok (.ishl, 1)) (hpc : pc = pc0)  (K : Go p e below P T (mkF m (pc0 + 1) Ls (.int (x <<< (y &&& 31)) :: st))) : Go p e below P T (mkF m pc Ls (.int y :: .int x :: st)) := by
  subst hpc
  exact Go.of (fun _ q => XS.ishl X.here hx rfl hd rfl q) K
theorem Go.ishr (X : Stand p l e R s m args below meth c T locs cells slots) (hx : p.tables.exec = Jvm.exec) {x y : Int32} (hd : decode c.code pc0 = .ok (.ishr, 1)) (hpc : pc = pc0)  (K : Go p e below P T (mkF m (pc0 + 1) Ls (.int (x >>> (y &&& 31)) :: st))) : Go p e below P T (mkF m pc Ls (.int y :: .int x :: st)) := by
  subst hpc
  exact Go.of (fun _ q => XS.ishr X.here hx rfl hd rfl q) K
theorem Go.iushr (X : Stand p l e R s m args below meth c T locs cells slots) (hx : p.tables.exec = Jvm.exec) {x y : Int32} (hd : decode c.code pc0 = .ok (.iushr, 1)) (hpc : pc = pc0)  (K : Go p e below P T (mkF m (pc0 + 1) Ls (.int ((x.toUInt32 >>> (y &&& 31).toUInt32).toInt32) :: st))) : Go p e below P T (mkF m pc Ls (.int y :: .int x :: st)) := by
  subst hpc
  exact Go.of (fun _ q => XS.iushr X.here hx rfl hd rfl q) K
theorem Go.lshl (X : Stand p l e R s m args below meth c T locs cells slots) (hx : p.tables.exec = Jvm.exec) {x : Int64} {y : Int32} (hd : decode c.code pc0 = .ok (.lshl, 1)) (hpc : pc = pc0)  (K : Go p e below P T (mkF m (pc0 + 1) Ls (.long (x <<< (y &&& 0x3f).toInt64) :: st))) : Go p e below P T (mkF m pc Ls (.int y :: .long x :: st)) := by
  subst hpc
  exact Go.of (fun _ q => XS.lshl X.here hx rfl hd rfl q) K
theorem Go.lshr (X : Stand p l e R s m args below meth c T locs cells slots) (hx : p.tables.exec = Jvm.exec) {x : Int64} {y : Int32} (hd : decode c.code pc0 = .ok (.lshr, 1)) (hpc : pc = pc0)  (K : Go p e below P T (mkF m (pc0 + 1) Ls (.long (x >>> (y &&& 0x3f).toInt64) :: st))) : Go p e below P T (mkF m pc Ls (.int y :: .long x :: st)) := by
  subst hpc
  exact Go.of (fun _ q => XS.lshr X.here hx rfl hd rfl q) K
theorem Go.lushr (X : Stand p l e R s m args below meth c T locs cells slots) (hx : p.tables.exec = Jvm.exec) {x : Int64} {y : Int32} (hd : decode c.code pc0 = .ok (.lushr, 1)) (hpc : pc = pc0)  (K : Go p e below P T (mkF m (pc0 + 1) Ls (.long ((x.toUInt64 >>> (y &&& 0x3f).toInt64.toUInt64).toInt64) :: st))) : Go p e below P T (mkF m pc Ls (.int y :: .long x :: st)) := by
  subst hpc
  exact Go.of (fun _ q => XS.lushr X.here hx rfl hd rfl q) K
theorem Go.i2l (X : Stand p l e R s m args below meth c T locs cells slots) (hx : p.tables.exec = Jvm.exec) {x : Int32} (hd : decode c.code pc0 = .ok (.i2l, 1)) (hpc : pc = pc0)  (K : Go p e below P T (mkF m (pc0 + 1) Ls (.long x.toInt64 :: st))) : Go p e below P T (mkF m pc Ls (.int x :: st)) := by
  subst hpc
  exact Go.of (fun _ q => XS.i2l X.here hx rfl hd rfl q) K
theorem Go.l2i (X : Stand p l e R s m args below meth c T locs cells slots) (hx : p.tables.exec = Jvm.exec) {x : Int64} (hd : decode c.code pc0 = .ok (.l2i, 1)) (hpc : pc = pc0)  (K : Go p e below P T (mkF m (pc0 + 1) Ls (.int x.toInt32 :: st))) : Go p e below P T (mkF m pc Ls (.long x :: st)) := by
  subst hpc
  exact Go.of (fun _ q => XS.l2i X.here hx rfl hd rfl q) K
theorem Go.i2b (X : Stand p l e R s m args below meth c T locs cells slots) (hx : p.tables.exec = Jvm.exec) {x : Int32} (hd : decode c.code pc0 = .ok (.i2b, 1)) (hpc : pc = pc0)  (K : Go p e below P T (mkF m (pc0 + 1) Ls (.int x.toInt8.toInt32 :: st))) : Go p e below P T (mkF m pc Ls (.int x :: st)) := by
  subst hpc
  exact Go.of (fun _ q => XS.i2b X.here hx rfl hd rfl q) K
theorem Go.i2s (X : Stand p l e R s m args below meth c T locs cells slots) (hx : p.tables.exec = Jvm.exec) {x : Int32} (hd : decode c.code pc0 = .ok (.i2s, 1)) (hpc : pc = pc0)  (K : Go p e below P T (mkF m (pc0 + 1) Ls (.int x.toInt16.toInt32 :: st))) : Go p e below P T (mkF m pc Ls (.int x :: st)) := by
  subst hpc
  exact Go.of (fun _ q => XS.i2s X.here hx rfl hd rfl q) K
theorem Go.i2c (X : Stand p l e R s m args below meth c T locs cells slots) (hx : p.tables.exec = Jvm.exec) {x : Int32} (hd : decode c.code pc0 = .ok (.i2c, 1)) (hpc : pc = pc0)  (K : Go p e below P T (mkF m (pc0 + 1) Ls (.int x.toUInt32.toUInt16.toUInt32.toInt32 :: st))) : Go p e below P T (mkF m pc Ls (.int x :: st)) := by
  subst hpc
  exact Go.of (fun _ q => XS.i2c X.here hx rfl hd rfl q) K
theorem Go.lcmp (X : Stand p l e R s m args below meth c T locs cells slots) (hx : p.tables.exec = Jvm.exec) {x y : Int64} (hd : decode c.code pc0 = .ok (.lcmp, 1)) (hpc : pc = pc0)  (K : Go p e below P T (mkF m (pc0 + 1) Ls (.int (lcmpW x y) :: st))) : Go p e below P T (mkF m pc Ls (.long y :: .long x :: st)) := by
  subst hpc
  exact Go.of (fun _ q => XS.lcmp X.here hx rfl hd rfl q) K
theorem Go.dup (X : Stand p l e R s m args below meth c T locs cells slots) (hx : p.tables.exec = Jvm.exec) {x : Value} (hd : decode c.code pc0 = .ok (.dup, 1)) (hpc : pc = pc0) (hc : x.category = 1) (K : Go p e below P T (mkF m (pc0 + 1) Ls (x :: x :: st))) : Go p e below P T (mkF m pc Ls (x :: st)) := by
  subst hpc
  exact Go.of (fun _ q => XS.dup X.here hx rfl hd rfl hc q) K
theorem Go.dupX1 (X : Stand p l e R s m args below meth c T locs cells slots) (hx : p.tables.exec = Jvm.exec) {x y : Value} (hd : decode c.code pc0 = .ok (.dup_x1, 1)) (hpc : pc = pc0) (hc : x.category = 1) (hc' : y.category = 1) (K : Go p e below P T (mkF m (pc0 + 1) Ls (x :: y :: x :: st))) : Go p e below P T (mkF m pc Ls (x :: y :: st)) := by
  subst hpc
  exact Go.of (fun _ q => XS.dupX1 X.here hx rfl hd rfl hc hc' q) K
theorem Go.dup2 (X : Stand p l e R s m args below meth c T locs cells slots) (hx : p.tables.exec = Jvm.exec) {x y : Value} (hd : decode c.code pc0 = .ok (.dup2, 1)) (hpc : pc = pc0) (hc : x.category = 1) (hc' : y.category = 1) (K : Go p e below P T (mkF m (pc0 + 1) Ls (x :: y :: x :: y :: st))) : Go p e below P T (mkF m pc Ls (x :: y :: st)) := by
  subst hpc
  exact Go.of (fun _ q => XT.dup2 X.here hx rfl hd rfl hc hc' q) K
theorem Go.pop (X : Stand p l e R s m args below meth c T locs cells slots) (hx : p.tables.exec = Jvm.exec) {x : Value} (hd : decode c.code pc0 = .ok (.pop, 1)) (hpc : pc = pc0) (hc : x.category = 1) (K : Go p e below P T (mkF m (pc0 + 1) Ls (st))) : Go p e below P T (mkF m pc Ls (x :: st)) := by
  subst hpc
  exact Go.of (fun _ q => XS.pop X.here hx rfl hd rfl hc q) K
theorem Go.iinc (X : Stand p l e R s m args below meth c T locs cells slots) (hx : p.tables.exec = Jvm.exec) {k : Nat} {cst : Int} {x : Int32} (hd : decode c.code pc0 = .ok (.iinc k cst, 3)) (hpc : pc = pc0) (hl : Ls[k]? = some (.val (.int x))) (l' : Array Slot) (hl' : storeLocals Ls k (.int (x + Int32.ofInt cst)) = some l') (K : Go p e below P T (mkF m (pc0 + 3) l' (st))) : Go p e below P T (mkF m pc Ls (st)) := by
  subst hpc
  exact Go.of (fun _ q => XS.iinc X.here hx rfl hd hl hl' q) K
theorem Go.goto (X : Stand p l e R s m args below meth c T locs cells slots) (hx : p.tables.exec = Jvm.exec)  {o : Int} (hd : decode c.code pc0 = .ok (.goto o, 3)) (hpc : pc = pc0) (pc' : Nat)  (ho : 0 ≤ (pc0 : Int) + o) (hp : ((pc0 : Int) + o).toNat = pc') (K : Go p e below P T (mkF m pc' Ls st)) : Go p e below P T (mkF m pc Ls (st)) := by
  subst hpc
  exact Go.of (fun _ q => XS.goto X.here hx rfl rfl hd ho hp q) K
theorem Go.ifYes (X : Stand p l e R s m args below meth c T locs cells slots) (hx : p.tables.exec = Jvm.exec) {cd : ClassFile.Cond} {x : Int32} {o : Int} (hd : decode c.code pc0 = .ok (.ifCond cd o, 3)) (hpc : pc = pc0) (pc' : Nat) (hc : ifCond.holds cd x = true) (ho : 0 ≤ (pc0 : Int) + o) (hp : ((pc0 : Int) + o).toNat = pc') (K : Go p e below P T (mkF m pc' Ls st)) : Go p e below P T (mkF m pc Ls (.int x :: st)) := by
  subst hpc
  exact Go.of (fun _ q => XS.ifYes X.here hx rfl rfl hd rfl hc ho hp q) K
theorem Go.icmpYes (X : Stand p l e R s m args below meth c T locs cells slots) (hx : p.tables.exec = Jvm.exec) {cd : ClassFile.Cond} {x y : Int32} {o : Int} (hd : decode c.code pc0 = .ok (.if_icmp cd o, 3)) (hpc : pc = pc0) (pc' : Nat) (hc : if_icmp.holds cd x y = true) (ho : 0 ≤ (pc0 : Int) + o) (hp : ((pc0 : Int) + o).toNat = pc') (K : Go p e below P T (mkF m pc' Ls st)) : Go p e below P T (mkF m pc Ls (.int y :: .int x :: st)) := by
  subst hpc
  exact Go.of (fun _ q => XS.icmpYes X.here hx rfl rfl hd rfl hc ho hp q) K
theorem Go.ifnullYes (X : Stand p l e R s m args below meth c T locs cells slots) (hx : p.tables.exec = Jvm.exec)  {o : Int} (hd : decode c.code pc0 = .ok (.ifnull o, 3)) (hpc : pc = pc0) (pc' : Nat)  (ho : 0 ≤ (pc0 : Int) + o) (hp : ((pc0 : Int) + o).toNat = pc') (K : Go p e below P T (mkF m pc' Ls st)) : Go p e below P T (mkF m pc Ls (.null :: st)) := by
  subst hpc
  exact Go.of (fun _ q => XS.ifnullYes X.here hx rfl rfl hd rfl ho hp q) K
theorem Go.ifnonnullYes (X : Stand p l e R s m args below meth c T locs cells slots) (hx : p.tables.exec = Jvm.exec) {b : Addr} {o : Int} (hd : decode c.code pc0 = .ok (.ifnonnull o, 3)) (hpc : pc = pc0) (pc' : Nat)  (ho : 0 ≤ (pc0 : Int) + o) (hp : ((pc0 : Int) + o).toNat = pc') (K : Go p e below P T (mkF m pc' Ls st)) : Go p e below P T (mkF m pc Ls (.ref b :: st)) := by
  subst hpc
  exact Go.of (fun _ q => XS.ifnonnullYes X.here hx rfl rfl hd rfl ho hp q) K
theorem Go.ifNo (X : Stand p l e R s m args below meth c T locs cells slots) (hx : p.tables.exec = Jvm.exec) {cd : ClassFile.Cond} {o : Int} {x : Int32} (hd : decode c.code pc0 = .ok (.ifCond cd o, 3)) (hpc : pc = pc0) (hc : ifCond.holds cd x = false) (K : Go p e below P T (mkF m (pc0 + 3) Ls (st))) : Go p e below P T (mkF m pc Ls (.int x :: st)) := by
  subst hpc
  exact Go.of (fun _ q => XS.ifNo X.here hx rfl hd rfl hc q) K
theorem Go.icmpNo (X : Stand p l e R s m args below meth c T locs cells slots) (hx : p.tables.exec = Jvm.exec) {cd : ClassFile.Cond} {o : Int} {x y : Int32} (hd : decode c.code pc0 = .ok (.if_icmp cd o, 3)) (hpc : pc = pc0) (hc : if_icmp.holds cd x y = false) (K : Go p e below P T (mkF m (pc0 + 3) Ls (st))) : Go p e below P T (mkF m pc Ls (.int y :: .int x :: st)) := by
  subst hpc
  exact Go.of (fun _ q => XS.icmpNo X.here hx rfl hd rfl hc q) K
theorem Go.ifnullNo (X : Stand p l e R s m args below meth c T locs cells slots) (hx : p.tables.exec = Jvm.exec) {o : Int} {b : Addr} (hd : decode c.code pc0 = .ok (.ifnull o, 3)) (hpc : pc = pc0)  (K : Go p e below P T (mkF m (pc0 + 3) Ls (st))) : Go p e below P T (mkF m pc Ls (.ref b :: st)) := by
  subst hpc
  exact Go.of (fun _ q => XS.ifnullNo X.here hx rfl hd rfl q) K
theorem Go.ifnonnullNo (X : Stand p l e R s m args below meth c T locs cells slots) (hx : p.tables.exec = Jvm.exec) {o : Int} (hd : decode c.code pc0 = .ok (.ifnonnull o, 3)) (hpc : pc = pc0)  (K : Go p e below P T (mkF m (pc0 + 3) Ls (st))) : Go p e below P T (mkF m pc Ls (.null :: st)) := by
  subst hpc
  exact Go.of (fun _ q => XS.ifnonnullNo X.here hx rfl hd rfl q) K
theorem Go.acmp (X : Stand p l e R s m args below meth c T locs cells slots) (hx : p.tables.exec = Jvm.exec) {cd : ACond} {x y : Value} {o : Int} (hd : decode c.code pc0 = .ok (.if_acmp cd o, 3)) (hpc : pc = pc0) (h1 : x.isRef = true) (h2 : y.isRef = true) (same : Bool) (hq : decide (x = y) = same) (pc' : Nat) (ho : 0 ≤ (pc0 : Int) + o) (hp : pc' = if acV cd same = true then ((pc0 : Int) + o).toNat else pc0 + 3) (K : Go p e below P T (mkF m pc' Ls st)) : Go p e below P T (mkF m pc Ls (y :: x :: st)) := by
  subst hpc
  exact Go.of (fun _ q => Jvm.RoadKit.acmp X hx rfl h1 h2 rfl hd rfl hq ho hp q) K
theorem Go.tswIn (X : Stand p l e R s m args below meth c T locs cells slots) (hx : p.tables.exec = Jvm.exec) {dflt low high : Int} {offs : Array Int} {len : Nat} {o : Int} {i : Int32} (hd : decode c.code pc0 = .ok (.tableswitch dflt low high offs, len)) (hpc : pc = pc0) (pc' : Nat) (hin : ¬ (i.toInt < low ∨ i.toInt > high)) (hoff : offs[(i.toInt - low).toNat]? = some o) (ho : 0 ≤ (pc0 : Int) + o) (hp : ((pc0 : Int) + o).toNat = pc') (K : Go p e below P T (mkF m pc' Ls st)) : Go p e below P T (mkF m pc Ls (.int i :: st)) := by
  subst hpc
  exact Go.of (fun _ q => XS.tswIn X.here hx rfl rfl hd rfl hin hoff ho hp q) K
theorem Go.ldc (X : Stand p l e R s m args below meth c T locs cells slots) (hx : p.tables.exec = Jvm.exec) (hZ : Z.Warmed39 s.vm) {own : String} {index : Nat} (hown : s.vm.findClass own = some m.cls) {v : Int32} (w : (Cond.constant own index v).before a0 Z = true) (hd : decode c.code pc0 = .ok (.ldc index, 2)) (hpc : pc = pc0) (K : Go p e below P T (mkF m (pc0 + 2) Ls (.int v :: st))) : Go p e below P T (mkF m pc Ls st) := by
  subst hpc
  exact Go.of (fun _ q => X.ldcInt hx hown (mvT hZ w) (g := mkF m pc Ls st) rfl hd _ q) K
theorem Go.ldc_w (X : Stand p l e R s m args below meth c T locs cells slots) (hx : p.tables.exec = Jvm.exec) (hZ : Z.Warmed39 s.vm) {own : String} {index : Nat} (hown : s.vm.findClass own = some m.cls) {v : Int32} (w : (Cond.constant own index v).before a0 Z = true) (hd : decode c.code pc0 = .ok (.ldc_w index, 3)) (hpc : pc = pc0) (K : Go p e below P T (mkF m (pc0 + 3) Ls (.int v :: st))) : Go p e below P T (mkF m pc Ls st) := by
  subst hpc
  exact Go.of (fun _ q => X.ldcwInt hx hown (mvT hZ w) (g := mkF m pc Ls st) rfl hd _ q) K
theorem Go.ldc2_w (X : Stand p l e R s m args below meth c T locs cells slots) (hx : p.tables.exec = Jvm.exec) (hZ : Z.Warmed39 s.vm) {own : String} {index : Nat} (hown : s.vm.findClass own = some m.cls) {v : Int64} (w : (Cond.constantLong own index v).before a0 Z = true) (hd : decode c.code pc0 = .ok (.ldc2_w index, 3)) (hpc : pc = pc0) (K : Go p e below P T (mkF m (pc0 + 3) Ls (.long v :: st))) : Go p e below P T (mkF m pc Ls st) := by
  subst hpc
  exact Go.of (fun _ q => X.ldc2Long hx hown (mvT hZ w) (g := mkF m pc Ls st) rfl hd _ q) K
theorem Go.getS (X : Stand p l e R s m args below meth c T locs cells slots) (hx : p.tables.exec = Jvm.exec) (hZ : Z.Warmed39 s.vm) {own : String} {index : Nat} (hown : s.vm.findClass own = some m.cls) {R0 O n d host : String} {v : Value} (w : (Cond.fieldLink own index R0 n d).before a0 Z = true ∨ (Cond.fieldLinkNest own index R0 n d host).before a0 Z = true) (via : Via Z R0 O n d) (eT : T.heap = h) (F : Sta Z h O n d v) (hd : decode c.code pc0 = .ok (.getstatic index, 3)) (hpc : pc = pc0) (K : ∀ T', Stand p l e R s m args below meth c T' locs cells slots → T'.heap = h → Go p e below P T' (mkF m (pc0 + 3) Ls (v :: st))) : Go p e below P T (mkF m pc Ls st) := by
  subst hpc
  obtain ⟨T', X', e', q⟩ := getS2 X hx hZ hown w via eT F (g := mkF m pc Ls st) rfl hd
  exact Go.of q (K T' X' e')
theorem Go.getF (X : Stand p l e R s m args below meth c T locs cells slots) (hx : p.tables.exec = Jvm.exec) (hZ : Z.Warmed39 s.vm) {own : String} {index : Nat} (hown : s.vm.findClass own = some m.cls) {R0 O n d host : String} {a : Addr} {v : Value} (w : (Cond.fieldLink own index R0 n d).before a0 Z = true ∨ (Cond.fieldLinkNest own index R0 n d host).before a0 Z = true) (via : Via Z R0 O n d) (eT : T.heap = h) (F : Fld Z h a O n d v) (hd : decode c.code pc0 = .ok (.getfield index, 3)) (hpc : pc = pc0) (K : ∀ T', Stand p l e R s m args below meth c T' locs cells slots → T'.heap = h → Go p e below P T' (mkF m (pc0 + 3) Ls (v :: st))) : Go p e below P T (mkF m pc Ls (.ref a :: st)) := by
  subst hpc
  obtain ⟨T', X', e', q⟩ := Jvm.RoadKit.getF X hx hZ hown w via eT F (g := mkF m pc Ls (.ref a :: st)) rfl rfl hd
  exact Go.of q (K T' X' e')
theorem Go.putF (X : Stand p l e R s m args below meth c T locs cells slots) (hx : p.tables.exec = Jvm.exec) (hZ : Z.Warmed39 s.vm) {own : String} {index : Nat} (hown : s.vm.findClass own = some m.cls) {R0 O n d host C : String} {kk : Nat} {a : Addr} {v old : Value} {ty : FieldType} (w : (Cond.fieldLink own index R0 n d).before a0 Z = true ∨ (Cond.fieldLinkNest own index R0 n d host).before a0 Z = true) (via : Via Z R0 O n d) (eT : T.heap = h) (F : Fld Z h a O n d old) (E : Exa Z h a C) (L : (Cond.lays C O n d).before a0 Z = true ∨ ((Cond.laysFinal C O n d).before a0 Z = true ∧ own = O ∧ meth.name = "<init>")) (wi : (Cond.instantiable C kk).before a0 Z = true) (hty : parseFieldDescriptor d = some ty) (hn : narrow ty v = v) (hf : fits ty v = true) (hd : decode c.code pc0 = .ok (.putfield index, 3)) (hpc : pc = pc0)
    (K : ∀ T' h', Stand p l e R s m args below meth c T' (locs ++ [⟨a, Jvm.RoadKit.slotOf Z O n d⟩]) cells slots → T'.heap = h' → Wr h h' a (Jvm.RoadKit.slotOf Z O n d) v → Fld Z h' a O n d v → Go p e below P T' (mkF m (pc0 + 3) Ls st)) : Go p e below P T (mkF m pc Ls (v :: .ref a :: st)) := by
  subst hpc
  obtain ⟨T', h', X', e', W, q⟩ := Jvm.RoadKit.putF X hx hZ hown w via eT F E L wi hty hn hf (g := mkF m pc Ls (v :: .ref a :: st)) rfl rfl hd
  exact Go.of q (K T' h' X' e' W (F.same W))
theorem Go.newO (X : Stand p l e R s m args below meth c T locs cells slots) (hx : p.tables.exec = Jvm.exec) (hZ : Z.Warmed39 s.vm) {own : String} {index : Nat} (hown : s.vm.findClass own = some m.cls) {C : String} {n : Nat} (w : (Cond.classLink own index C).before a0 Z = true) (wi : (Cond.instantiable C n).before a0 Z = true) (wz : (Cond.initialized C).before a0 Z = true) (eT : T.heap = h) (hd : decode c.code pc0 = .ok (.new index, 3)) (hpc : pc = pc0) (hc : cells + 1 ≤ R.cells) (hl : slots + n ≤ R.slots)
    (K : ∀ T' h' b, b = h.size → Stand p l e R s m args below meth c T' locs (cells + 1) (slots + n) → T'.heap = h' → Ext h h' → Exa Z h' b C → (∀ {O nm d : String} {ty : FieldType}, Laid Z a0 C O nm d → parseFieldDescriptor d = some ty → Fld Z h' b O nm d (defaultValue ty)) → Go p e below P T' (mkF m (pc0 + 3) Ls (.ref b :: st))) : Go p e below P T (mkF m pc Ls st) := by
  subst hpc
  obtain ⟨T', h', X', e', E, A, D, -, q⟩ := Jvm.RoadKit.newO X hx hZ hown w wi wz eT (g := mkF m pc Ls st) rfl hd hc hl
  exact Go.of q (K T' h' _ rfl X' e' E A D)
theorem Go.initO (X : Stand p l e R s m args below meth c T locs cells slots) (hx : p.tables.exec = Jvm.exec) (hZ : Z.Warmed39 s.vm) {own : String} {index : Nat} (hown : s.vm.findClass own = some m.cls) (w1 : (Cond.methodLink own index Lib.objectInit).before a0 Z = true) (w2 : (Cond.instanceMethod Lib.objectInit).before a0 Z = true) (w3 : (Cond.code Lib.objectInit ⟨#[0xb1]⟩ 1 none).before a0 Z = true) (eT : T.heap = h) (hsz : Ls.size = c.maxLocals) {a : Addr} (hd : decode c.code pc0 = .ok (.invokespecial index, 3)) (hpc : pc = pc0) (hf : 1 ≤ R.frames) (hl : (st.map fun v => v.category).sum + 12 ≤ R.locals) (K : ∀ T', Stand p l e R s m args below meth c T' locs cells slots → T'.heap = h → Go p e below P T' (mkF m (pc0 + 3) Ls (st))) : Go p e below P T (mkF m pc Ls (.ref a :: st)) := by
  subst hpc
  obtain ⟨T', X', e', q⟩ := Jvm.RoadKit.initO X hx hZ hown w1 w2 w3 eT (g := mkF m pc Ls (.ref a :: st)) rfl hsz rfl hd hf (W := (st.map fun v => v.category).sum) (by show 2 * 0 + _ ≤ _; omega) hl
  exact Go.of q (K T' X' e')
theorem Go.alen (X : Stand p l e R s m args below meth c T locs cells slots) (hx : p.tables.exec = Jvm.exec) (hZ : Z.Warmed39 s.vm) {a : Addr} {k : ClassId} {ty : FieldType} {n : Int32} {vs : List Value} {dv : Value} (A : Arv Z h a k ty n vs dv) (eT : T.heap = h) (hd : decode c.code pc0 = .ok (.arraylength, 1)) (hpc : pc = pc0) (K : Go p e below P T (mkF m (pc0 + 1) Ls (.int n :: st))) : Go p e below P T (mkF m pc Ls (.ref a :: st)) := by
  subst hpc
  obtain ⟨cl, Ar, -, Sz, Ng, -, -⟩ := A
  refine Go.of (fun _ q => X.arraylength hx (by rw [eT]; exact Ar.1) (State.isArrayOf_alike hZ.alike Ar.2.1) (g := mkF m pc Ls (.ref a :: st)) rfl rfl hd _ q) ?_
  rw [len_of Sz Ng]
  exact K
theorem Go.iaload (X : Stand p l e R s m args below meth c T locs cells slots) (hx : p.tables.exec = Jvm.exec) (hZ : Z.Warmed39 s.vm) {a : Addr} {k : ClassId} {n : Int32} {vs : List Value} {dv : Value} {j : Int32} (v : Value) (A : Arv Z h a k .int n vs dv) (eT : T.heap = h) (hj : ¬ j < 0 ∧ j < n) (hv : vs.getD j.toNatClampNeg dv = v) (hd : decode c.code pc0 = .ok (.iaload, 1)) (hpc : pc = pc0) (K : Go p e below P T (mkF m (pc0 + 1) Ls (v :: st))) : Go p e below P T (mkF m pc Ls (.int j :: .ref a :: st)) := by
  subst hpc
  obtain ⟨cl, Ar, -, Sz, Ng, Hs, -⟩ := A
  have hin : ¬ (j < 0 ∨ cl.slots.size ≤ j.toNatClampNeg) := inb_of Sz hj
  exact Go.of (fun _ q => X.iaload hx (j := j) (v := v) (by rw [eT]; exact Ar.1) (State.isArrayOf_alike hZ.alike Ar.2.1) Ar.2.2 hin (Has.at Hs hin hv) (g := mkF m pc Ls (.int j :: .ref a :: st)) rfl rfl hd _ q) K
theorem Go.laload (X : Stand p l e R s m args below meth c T locs cells slots) (hx : p.tables.exec = Jvm.exec) (hZ : Z.Warmed39 s.vm) {a : Addr} {k : ClassId} {n : Int32} {vs : List Value} {dv : Value} {j : Int32} (v : Value) (A : Arv Z h a k .long n vs dv) (eT : T.heap = h) (hj : ¬ j < 0 ∧ j < n) (hv : vs.getD j.toNatClampNeg dv = v) (hd : decode c.code pc0 = .ok (.laload, 1)) (hpc : pc = pc0) (K : Go p e below P T (mkF m (pc0 + 1) Ls (v :: st))) : Go p e below P T (mkF m pc Ls (.int j :: .ref a :: st)) := by
  subst hpc
  obtain ⟨cl, Ar, -, Sz, Ng, Hs, -⟩ := A
  have hin : ¬ (j < 0 ∨ cl.slots.size ≤ j.toNatClampNeg) := inb_of Sz hj
  exact Go.of (fun _ q => X.laload hx (j := j) (v := v) (by rw [eT]; exact Ar.1) (State.isArrayOf_alike hZ.alike Ar.2.1) Ar.2.2 hin (Has.at Hs hin hv) (g := mkF m pc Ls (.int j :: .ref a :: st)) rfl rfl hd _ q) K
theorem Go.aaload (X : Stand p l e R s m args below meth c T locs cells slots) (hx : p.tables.exec = Jvm.exec) (hZ : Z.Warmed39 s.vm) {a : Addr} {k : ClassId} {ty : FieldType} {n : Int32} {vs : List Value} {dv : Value} {j : Int32} (v : Value) (A : Arv Z h a k ty n vs dv) (eT : T.heap = h) (hty : ty.isReference = true) (hj : ¬ j < 0 ∧ j < n) (hv : vs.getD j.toNatClampNeg dv = v) (hd : decode c.code pc0 = .ok (.aaload, 1)) (hpc : pc = pc0) (K : Go p e below P T (mkF m (pc0 + 1) Ls (v :: st))) : Go p e below P T (mkF m pc Ls (.int j :: .ref a :: st)) := by
  subst hpc
  obtain ⟨cl, Ar, -, Sz, Ng, Hs, -⟩ := A
  have hin : ¬ (j < 0 ∨ cl.slots.size ≤ j.toNatClampNeg) := inb_of Sz hj
  exact Go.of (fun _ q => X.aaload hx (j := j) (v := v) (by rw [eT]; exact Ar.1) (State.isArrayOf_alike hZ.alike Ar.2.1) hty Ar.2.2 hin (Has.at Hs hin hv) (g := mkF m pc Ls (.int j :: .ref a :: st)) rfl rfl hd _ q) K
theorem Go.iastore (X : Stand p l e R s m args below meth c T locs cells slots) (hx : p.tables.exec = Jvm.exec) (hZ : Z.Warmed39 s.vm) {a : Addr} {k : ClassId} {n : Int32} {vs : List Value} {dv : Value} {j : Int32} {x : Int32} (A : Arv Z h a k .int n vs dv) (eT : T.heap = h) (hj : ¬ j < 0 ∧ j < n) (i : Nat) (hi : j.toNatClampNeg = i) (hl : i < vs.length) (hd : decode c.code pc0 = .ok (.iastore, 1)) (hpc : pc = pc0)
    (K : ∀ T' h', Stand p l e R s m args below meth c T' (locs ++ [⟨a, j.toNatClampNeg⟩]) cells slots → T'.heap = h' → Wr h h' a j.toNatClampNeg (.int x) → Arv Z h' a k .int n (vs.set i (.int x)) dv → Go p e below P T' (mkF m (pc0 + 1) Ls st)) : Go p e below P T (mkF m pc Ls (.int x :: .int j :: .ref a :: st)) := by
  subst hpc
  obtain ⟨cl, Ar, cq, Sz, Ng, Hs, Gs⟩ := A
  have hin : ¬ (j < 0 ∨ cl.slots.size ≤ j.toNatClampNeg) := inb_of Sz hj
  obtain ⟨T', h', X', e', W, q⟩ := stI X hx hZ eT Ar (j := j) hin (g := mkF m pc Ls (.int x :: .int j :: .ref a :: st)) rfl rfl hd
  exact Go.of q (K T' h' X' e' W (Arv.set Ar cq Sz Ng Hs Gs rfl W i hi hl))
theorem Go.lastore (X : Stand p l e R s m args below meth c T locs cells slots) (hx : p.tables.exec = Jvm.exec) (hZ : Z.Warmed39 s.vm) {a : Addr} {k : ClassId} {n : Int32} {vs : List Value} {dv : Value} {j : Int32} {x : Int64} (A : Arv Z h a k .long n vs dv) (eT : T.heap = h) (hj : ¬ j < 0 ∧ j < n) (i : Nat) (hi : j.toNatClampNeg = i) (hl : i < vs.length) (hd : decode c.code pc0 = .ok (.lastore, 1)) (hpc : pc = pc0)
    (K : ∀ T' h', Stand p l e R s m args below meth c T' (locs ++ [⟨a, j.toNatClampNeg⟩]) cells slots → T'.heap = h' → Wr h h' a j.toNatClampNeg (.long x) → Arv Z h' a k .long n (vs.set i (.long x)) dv → Go p e below P T' (mkF m (pc0 + 1) Ls st)) : Go p e below P T (mkF m pc Ls (.long x :: .int j :: .ref a :: st)) := by
  subst hpc
  obtain ⟨cl, Ar, cq, Sz, Ng, Hs, Gs⟩ := A
  have hin : ¬ (j < 0 ∨ cl.slots.size ≤ j.toNatClampNeg) := inb_of Sz hj
  obtain ⟨T', h', X', e', W, q⟩ := stJ X hx hZ eT Ar (j := j) hin (g := mkF m pc Ls (.long x :: .int j :: .ref a :: st)) rfl rfl hd
  exact Go.of q (K T' h' X' e' W (Arv.set Ar cq Sz Ng Hs Gs rfl W i hi hl))
theorem Go.aastore (X : Stand p l e R s m args below meth c T locs cells slots) (hx : p.tables.exec = Jvm.exec) (hZ : Z.Warmed39 s.vm) {a : Addr} {k : ClassId} {ty : FieldType} {n : Int32} {vs : List Value} {dv : Value} {j : Int32} {v : Value} (A : Arv Z h a k ty n vs dv) (eT : T.heap = h) (hj : ¬ j < 0 ∧ j < n) (i : Nat) (hi : j.toNatClampNeg = i) (hl : i < vs.length) (hty : ty.isReference = true) (hfv : fits ty v = true) (F : ∀ cl, Arr Z h a cl ty → cl.cls = k → Sto Z h a v) (hd : decode c.code pc0 = .ok (.aastore, 1)) (hpc : pc = pc0)
    (K : ∀ T' h', Stand p l e R s m args below meth c T' (locs ++ [⟨a, j.toNatClampNeg⟩]) cells slots → T'.heap = h' → Wr h h' a j.toNatClampNeg (v) → Arv Z h' a k ty n (vs.set i (v)) dv → Go p e below P T' (mkF m (pc0 + 1) Ls st)) : Go p e below P T (mkF m pc Ls (v :: .int j :: .ref a :: st)) := by
  subst hpc
  obtain ⟨cl, Ar, cq, Sz, Ng, Hs, Gs⟩ := A
  have hin : ¬ (j < 0 ∨ cl.slots.size ≤ j.toNatClampNeg) := inb_of Sz hj
  obtain ⟨T', h', X', e', W, q⟩ := stR X hx hZ eT Ar (j := j) hin hty (F cl Ar cq) (g := mkF m pc Ls (v :: .int j :: .ref a :: st)) rfl rfl hd
  exact Go.of q (K T' h' X' e' W (Arv.set Ar cq Sz Ng Hs Gs hfv W i hi hl))
theorem Go.newP (X : Stand p l e R s m args below meth c T locs cells slots) (hx : p.tables.exec = Jvm.exec) (hZ : Z.Warmed39 s.vm) {aty : ArrayType} {n : Int32} (w : (Cond.arrayClass (newarray.typeOf aty)).before a0 Z = true) (eT : T.heap = h) (u : Nat) (hn : ¬ n < 0) (cap : Nat) (hcap : n.toNatClampNeg ≤ cap) (hb : cap * 8 ≤ 536870912) (hc : cells + 1 ≤ R.cells) (hl : slots + cap ≤ R.slots) (ad : String) (had : "[" ++ (newarray.typeOf aty).toString = ad) (hd : decode c.code pc0 = .ok (.newarray aty, 2)) (hpc : pc = pc0)
    (K : ∀ T' h' b k, b = h.size → Stand p l e R s m args below meth c T' locs (cells + 1) (slots + cap) → T'.heap = h' → Ext h h' → Arv Z h' b k (newarray.typeOf aty) n ([] ++ List.replicate u (defaultValue (newarray.typeOf aty))) (defaultValue (newarray.typeOf aty)) → Exa Z h' b ad → Go p e below P T' (mkF m (pc0 + 2) Ls (.ref b :: st))) : Go p e below P T (mkF m pc Ls (.int n :: st)) := by
  subst hpc
  obtain ⟨T', h', cA, X', e', E, A, A', q⟩ := newPE X hx hZ w eT (g := mkF m pc Ls (.int n :: st)) rfl hd rfl hn (cap := cap) hcap hb hc hl had
  exact Go.of q (K T' h' _ cA rfl X' e' E ((Arv.new A hn).pad (pad_rep [] _ u)) A')
theorem Go.newR (X : Stand p l e R s m args below meth c T locs cells slots) (hx : p.tables.exec = Jvm.exec) (hZ : Z.Warmed39 s.vm) {own : String} {index : Nat} (hown : s.vm.findClass own = some m.cls) {C : String} {n : Int32} (w1 : (Cond.classLink own index C).before a0 Z = true) (w2 : (Cond.arrayOver (.object C)).before a0 Z = true) (eT : T.heap = h) (u : Nat) (hn : ¬ n < 0) (cap : Nat) (hcap : n.toNatClampNeg ≤ cap) (hb : cap * 8 ≤ 536870912) (hc : cells + 1 ≤ R.cells) (hl : slots + cap ≤ R.slots) (hd : decode c.code pc0 = .ok (.anewarray index, 3)) (hpc : pc = pc0)
    (K : ∀ T' h' b k, b = h.size → Stand p l e R s m args below meth c T' locs (cells + 1) (slots + cap) → T'.heap = h' → Ext h h' → Arv Z h' b k (.object C) n ([] ++ List.replicate u (.null)) (.null) → Ovr Z k C → Go p e below P T' (mkF m (pc0 + 3) Ls (.ref b :: st))) : Go p e below P T (mkF m pc Ls (.int n :: st)) := by
  subst hpc
  obtain ⟨T', h', cA, X', e', E, A, O, q⟩ := Jvm.RoadKit.newR X hx hZ hown w1 w2 eT (g := mkF m pc Ls (.int n :: st)) rfl hd rfl hn (cap := cap) hcap hb hc hl
  exact Go.of q (K T' h' _ cA rfl X' e' E ((Arv.new A hn).pad (pad_rep [] _ u)) O)
theorem Go.newRA (X : Stand p l e R s m args below meth c T locs cells slots) (hx : p.tables.exec = Jvm.exec) (hZ : Z.Warmed39 s.vm) {own : String} {index : Nat} (hown : s.vm.findClass own = some m.cls) {C : String} {ty : FieldType} {n : Int32} (hC : (FieldType.array ty).toString = C) (w1 : (Cond.classLink own index C).before a0 Z = true) (w2 : (Cond.arrayOver (.array ty)).before a0 Z = true) (eT : T.heap = h) (u : Nat) (hn : ¬ n < 0) (cap : Nat) (hcap : n.toNatClampNeg ≤ cap) (hb : cap * 8 ≤ 536870912) (hc : cells + 1 ≤ R.cells) (hl : slots + cap ≤ R.slots) (hd : decode c.code pc0 = .ok (.anewarray index, 3)) (hpc : pc = pc0)
    (K : ∀ T' h' b k, b = h.size → Stand p l e R s m args below meth c T' locs (cells + 1) (slots + cap) → T'.heap = h' → Ext h h' → Arv Z h' b k (.array ty) n ([] ++ List.replicate u (.null)) (.null) → OvrA Z k ty C → Go p e below P T' (mkF m (pc0 + 3) Ls (.ref b :: st))) : Go p e below P T (mkF m pc Ls (.int n :: st)) := by
  subst hpc
  obtain ⟨T', h', cA, X', e', E, A, -, O, q⟩ := Jvm.RoadKit.newRA X hx hZ hown hC w1 w2 eT (g := mkF m pc Ls (.int n :: st)) rfl hd rfl hn (cap := cap) hcap hb hc hl rfl
  exact Go.of q (K T' h' _ cA rfl X' e' E ((Arv.new A hn).pad (pad_rep [] _ u)) O)
end OwnSteps
theorem own_i32 {k n : Int32} {v : Int} (h : k.toInt = v) (hv : n.toInt = v) : k = n := Int32.toInt_inj.mp (h.trans hv.symm)
theorem own_rem5 (x : Int32) : (x &&& (2147483647 : Int32)) % (5 : Int32) = 0 ∨ (x &&& (2147483647 : Int32)) % (5 : Int32) = 1 ∨ (x &&& (2147483647 : Int32)) % (5 : Int32) = 2 ∨ (x &&& (2147483647 : Int32)) % (5 : Int32) = 3 ∨ (x &&& (2147483647 : Int32)) % (5 : Int32) = 4 := by
  have e1 : (x &&& (2147483647 : Int32)).toInt = x.toInt % 2 ^ 31 := Jvm.Kit.i32_mask x 2147483647 (k := 31) (by decide) (by decide)
  have e2 := Jvm.Kit.i32_rem_nonneg (x := x &&& (2147483647 : Int32)) (y := 5) (by omega)
  rw [show (5 : Int32).toInt = 5 from by decide] at e2
  generalize (x &&& (2147483647 : Int32)) % (5 : Int32) = k at *
  have e3 : k.toInt = 0 ∨ k.toInt = 1 ∨ k.toInt = 2 ∨ k.toInt = 3 ∨ k.toInt = 4 := by omega
  rcases e3 with h | h | h | h | h
  · exact Or.inl (own_i32 h (by decide))
  · exact Or.inr (Or.inl (own_i32 h (by decide)))
  · exact Or.inr (Or.inr (Or.inl (own_i32 h (by decide))))
  · exact Or.inr (Or.inr (Or.inr (Or.inl (own_i32 h (by decide)))))
  · exact Or.inr (Or.inr (Or.inr (Or.inr (own_i32 h (by decide)))))
theorem pd_0 : parseMethodDescriptor "(I)Lcom/example/nursery/nursery/NurseryState;" = some ⟨[.int], some (.object "com/example/nursery/nursery/NurseryState")⟩ := by decide +kernel
theorem pd_1 : parseMethodDescriptor "()Z" = some ⟨[], some .boolean⟩ := by decide +kernel
theorem pd_2 : parseMethodDescriptor "()I" = some ⟨[], some .int⟩ := by decide +kernel
theorem pd_3 : parseMethodDescriptor "(Lcom/example/nursery/nursery/NurseryState;)Z" = some ⟨[(.object "com/example/nursery/nursery/NurseryState")], some .boolean⟩ := by decide +kernel
def Facts (Z : State) (a_OPEN : Addr) (a_CLOSED : Addr) (a_CANCELLED : Addr) (a_CLOSING : Addr) (a_CANCELLING : Addr) : Prop := (Sta Z Z.heap "com/example/nursery/nursery/NurseryState" "OPEN" "Lcom/example/nursery/nursery/NurseryState;" (.ref a_OPEN)) ∧ (Exa Z Z.heap a_OPEN "com/example/nursery/nursery/NurseryState") ∧ (Sta Z Z.heap "com/example/nursery/nursery/NurseryState" "CLOSED" "Lcom/example/nursery/nursery/NurseryState;" (.ref a_CLOSED)) ∧ (Exa Z Z.heap a_CLOSED "com/example/nursery/nursery/NurseryState") ∧ (Fld Z Z.heap a_OPEN "java/lang/Enum" "ordinal" "I" (.int (0 : Int32))) ∧ (Fld Z Z.heap a_CLOSED "java/lang/Enum" "ordinal" "I" (.int (3 : Int32))) ∧ (Sta Z Z.heap "com/example/nursery/nursery/NurseryState" "CANCELLED" "Lcom/example/nursery/nursery/NurseryState;" (.ref a_CANCELLED)) ∧ (Exa Z Z.heap a_CANCELLED "com/example/nursery/nursery/NurseryState") ∧ (Fld Z Z.heap a_CANCELLED "java/lang/Enum" "ordinal" "I" (.int (4 : Int32))) ∧ (Sta Z Z.heap "com/example/nursery/nursery/NurseryState" "CLOSING" "Lcom/example/nursery/nursery/NurseryState;" (.ref a_CLOSING)) ∧ (Exa Z Z.heap a_CLOSING "com/example/nursery/nursery/NurseryState") ∧ (Fld Z Z.heap a_CLOSING "java/lang/Enum" "ordinal" "I" (.int (1 : Int32))) ∧ (Sta Z Z.heap "com/example/nursery/nursery/NurseryState" "CANCELLING" "Lcom/example/nursery/nursery/NurseryState;" (.ref a_CANCELLING)) ∧ (Exa Z Z.heap a_CANCELLING "com/example/nursery/nursery/NurseryState") ∧ (Fld Z Z.heap a_CANCELLING "java/lang/Enum" "ordinal" "I" (.int (2 : Int32))) ∧ (a_OPEN ≠ a_CLOSING) ∧ (a_OPEN ≠ a_CANCELLING) ∧ (a_OPEN ≠ a_CLOSED) ∧ (a_OPEN ≠ a_CANCELLED) ∧ (a_CLOSING ≠ a_CANCELLING) ∧ (a_CLOSING ≠ a_CLOSED) ∧ (a_CLOSING ≠ a_CANCELLED) ∧ (a_CANCELLING ≠ a_CLOSED) ∧ (a_CANCELLING ≠ a_CANCELLED) ∧ (a_CLOSED ≠ a_CANCELLED)
theorem pn_0 : plainName "com/example/nursery/nursery/NurseryStateIsTerminalPinLaw" = true := by first | (simp [plainName, overriddenIn]; done) | decide +kernel
theorem ef_0 (m : MethodId) (x0 : Int32) : entryFrame m #[(.int x0)] maxLocals = mkF m 0 #[.val (.int x0), .unset, .unset, .unset, .unset, .unset] [] := by first | (simp [entryFrame, mkF, argsToLocals, Value.category, maxLocals]; done) | rfl
theorem d1_0 : decode method_3_code 0 = .ok (.iload_n 0, 1) := by decide +kernel
theorem d1_1 : decode method_3_code 1 = .ok (.ifCond .ne 7, 3) := by decide +kernel
theorem d1_4 : decode method_3_code 4 = .ok (.getstatic 20, 3) := by decide +kernel
theorem d1_7 : decode method_3_code 7 = .ok (.areturn, 1) := by decide +kernel
theorem d1_8 : decode method_3_code 8 = .ok (.iload_n 0, 1) := by decide +kernel
theorem d1_9 : decode method_3_code 9 = .ok (.iconst 1, 1) := by decide +kernel
theorem d1_10 : decode method_3_code 10 = .ok (.if_icmp .ne 7, 3) := by decide +kernel
theorem d1_13 : decode method_3_code 13 = .ok (.getstatic 28, 3) := by decide +kernel
theorem d1_16 : decode method_3_code 16 = .ok (.areturn, 1) := by decide +kernel
theorem d1_17 : decode method_3_code 17 = .ok (.iload_n 0, 1) := by decide +kernel
theorem d1_18 : decode method_3_code 18 = .ok (.iconst 2, 1) := by decide +kernel
theorem d1_19 : decode method_3_code 19 = .ok (.if_icmp .ne 7, 3) := by decide +kernel
theorem d1_22 : decode method_3_code 22 = .ok (.getstatic 31, 3) := by decide +kernel
theorem d1_25 : decode method_3_code 25 = .ok (.areturn, 1) := by decide +kernel
theorem d1_26 : decode method_3_code 26 = .ok (.iload_n 0, 1) := by decide +kernel
theorem d1_27 : decode method_3_code 27 = .ok (.iconst 3, 1) := by decide +kernel
theorem d1_28 : decode method_3_code 28 = .ok (.if_icmp .ne 7, 3) := by decide +kernel
theorem d1_31 : decode method_3_code 31 = .ok (.getstatic 34, 3) := by decide +kernel
theorem d1_34 : decode method_3_code 34 = .ok (.areturn, 1) := by decide +kernel
theorem d1_35 : decode method_3_code 35 = .ok (.getstatic 37, 3) := by decide +kernel
theorem d1_38 : decode method_3_code 38 = .ok (.areturn, 1) := by decide +kernel
theorem ef_1 (m : MethodId) (x0 : Int32) : entryFrame m #[(.int x0)] 1 = mkF m 0 #[.val (.int x0)] [] := by first | (simp [entryFrame, mkF, argsToLocals, Value.category]; done) | rfl
set_option maxRecDepth 65536 in
set_option maxHeartbeats 40000000 in
theorem sp1_1 (l : Launch) (Z : State) (a0 : Array Value) (hw : ∀ d ∈ tables_1, d.before a0 Z = true) (a_OPEN : Addr) (a_CLOSED : Addr) (a_CANCELLED : Addr) (a_CLOSING : Addr) (a_CANCELLING : Addr)  (h0 : Heap) (O0 : Old Z Z.heap.size h0) (FF : Facts Z a_OPEN a_CLOSED a_CANCELLED a_CLOSING a_CANCELLING) : Pur l Z (⟨"com/example/nursery/nursery/NurseryStateIsTerminalPinLaw", "pick", "(I)Lcom/example/nursery/nursery/NurseryState;"⟩ : MethodName) method_3_code 1 (some (.object "com/example/nursery/nursery/NurseryState")) 0 0 #[(.int (0 : Int32))] h0 (some (.ref a_OPEN)) := by
  refine Ctr.of (plainFor_of_name pn_0) ?_
  have wd : ∀ {d : Jvm.Cond} (i : Nat), tables_1[i]? = some d → d.before a0 Z = true := fun i q => hw _ (List.mem_of_getElem? q)
  intro p e s m below meth c s₁ hx hby hml hown hnm hret hlk hZ X0 e0
  have FF' := FF
  obtain ⟨S_OPEN, E_OPEN, S_CLOSED, E_CLOSED, F_OPEN_ordinal, F_CLOSED_ordinal, S_CANCELLED, E_CANCELLED, F_CANCELLED_ordinal, S_CLOSING, E_CLOSING, F_CLOSING_ordinal, S_CANCELLING, E_CANCELLING, F_CANCELLING_ordinal, ne_OPEN_CLOSING, ne_OPEN_CANCELLING, ne_OPEN_CLOSED, ne_OPEN_CANCELLED, ne_CLOSING_CANCELLING, ne_CLOSING_CLOSED, ne_CLOSING_CANCELLED, ne_CANCELLING_CLOSED, ne_CANCELLING_CANCELLED, ne_CLOSED_CANCELLED⟩ := FF'
  refine Go.cast (ef_1 m (0 : Int32)) ?_
  show Go p e below _ s₁ (mkF m 0 #[.val (.int (0 : Int32))] [])
  refine Go.iloadN X0 hx (hb hby d1_0) rfl rfl  ?_
  refine Go.ifNo X0 hx (hb hby d1_1) rfl ((if0 _ _).trans (teq (by decide : (0 : Int32) = (0 : Int32))).2) ?_
  refine Go.getS X0 hx hZ hown (host := "") (Or.inl (wd 5 rfl)) Via.refl e0 (S_OPEN.ext O0.2) (hb hby d1_4) rfl ?_
  intro T1 X1 e1
  exact Go.retA X1 hx hret hlk rfl rfl (hb hby d1_7) rfl ⟨rfl, rfl, e1⟩ (Nat.le_of_ble_eq_true rfl) (Nat.le_of_ble_eq_true rfl)
theorem d2_0 : decode prog_5_method_6_code 0 = .ok (.aload_n 0, 1) := by decide +kernel
theorem d2_1 : decode prog_5_method_6_code 1 = .ok (.getstatic 13, 3) := by decide +kernel
theorem d2_4 : decode prog_5_method_6_code 4 = .ok (.if_acmp .eq 10, 3) := by decide +kernel
theorem d2_7 : decode prog_5_method_6_code 7 = .ok (.aload_n 0, 1) := by decide +kernel
theorem d2_8 : decode prog_5_method_6_code 8 = .ok (.getstatic 16, 3) := by decide +kernel
theorem d2_11 : decode prog_5_method_6_code 11 = .ok (.if_acmp .ne 7, 3) := by decide +kernel
theorem d2_14 : decode prog_5_method_6_code 14 = .ok (.iconst 1, 1) := by decide +kernel
theorem d2_15 : decode prog_5_method_6_code 15 = .ok (.goto 4, 3) := by decide +kernel
theorem d2_18 : decode prog_5_method_6_code 18 = .ok (.iconst 0, 1) := by decide +kernel
theorem d2_19 : decode prog_5_method_6_code 19 = .ok (.ireturn, 1) := by decide +kernel
theorem pn_2 : plainName "com/example/nursery/nursery/NurseryState" = true := by first | (simp [plainName, overriddenIn]; done) | decide +kernel
theorem ef_2 (m : MethodId) (x0 : Addr) : entryFrame m #[(.ref x0)] 1 = mkF m 0 #[.val (.ref x0)] [] := by first | (simp [entryFrame, mkF, argsToLocals, Value.category]; done) | rfl
set_option maxRecDepth 65536 in
set_option maxHeartbeats 40000000 in
theorem sp2_2 (l : Launch) (Z : State) (a0 : Array Value) (hw : ∀ d ∈ tables_1, d.before a0 Z = true) (a_OPEN : Addr) (a_CLOSED : Addr) (a_CANCELLED : Addr) (a_CLOSING : Addr) (a_CANCELLING : Addr)  (h0 : Heap) (O0 : Old Z Z.heap.size h0) (FF : Facts Z a_OPEN a_CLOSED a_CANCELLED a_CLOSING a_CANCELLING) : Pur l Z (⟨"com/example/nursery/nursery/NurseryState", "isTerminal", "()Z"⟩ : MethodName) prog_5_method_6_code 1 (some .boolean) 0 0 #[(.ref a_OPEN)] h0 (some (.int (0 : Int32))) := by
  refine Ctr.of (plainFor_of_name pn_2) ?_
  have wd : ∀ {d : Jvm.Cond} (i : Nat), tables_1[i]? = some d → d.before a0 Z = true := fun i q => hw _ (List.mem_of_getElem? q)
  intro p e s m below meth c s₁ hx hby hml hown hnm hret hlk hZ X0 e0
  have FF' := FF
  obtain ⟨S_OPEN, E_OPEN, S_CLOSED, E_CLOSED, F_OPEN_ordinal, F_CLOSED_ordinal, S_CANCELLED, E_CANCELLED, F_CANCELLED_ordinal, S_CLOSING, E_CLOSING, F_CLOSING_ordinal, S_CANCELLING, E_CANCELLING, F_CANCELLING_ordinal, ne_OPEN_CLOSING, ne_OPEN_CANCELLING, ne_OPEN_CLOSED, ne_OPEN_CANCELLED, ne_CLOSING_CANCELLING, ne_CLOSING_CLOSED, ne_CLOSING_CANCELLED, ne_CANCELLING_CLOSED, ne_CANCELLING_CANCELLED, ne_CLOSED_CANCELLED⟩ := FF'
  refine Go.cast (ef_2 m a_OPEN) ?_
  show Go p e below _ s₁ (mkF m 0 #[.val (.ref a_OPEN)] [])
  refine Go.aloadN X0 hx (hb hby d2_0) rfl rfl rfl ?_
  refine Go.getS X0 hx hZ hown (host := "") (Or.inl (wd 13 rfl)) Via.refl e0 (S_CLOSED.ext O0.2) (hb hby d2_1) rfl ?_
  intro T1 X1 e1
  refine Go.acmp X1 hx (hb hby d2_4) rfl rfl rfl false (decide_eq_false fun q => ne_OPEN_CLOSED (Value.ref.inj q)) 7 (by decide) (by decide) ?_
  refine Go.aloadN X1 hx (hb hby d2_7) rfl rfl rfl ?_
  refine Go.getS X1 hx hZ hown (host := "") (Or.inl (wd 15 rfl)) Via.refl e1 (S_CANCELLED.ext O0.2) (hb hby d2_8) rfl ?_
  intro T2 X2 e2
  refine Go.acmp X2 hx (hb hby d2_11) rfl rfl rfl false (decide_eq_false fun q => ne_OPEN_CANCELLED (Value.ref.inj q)) 18 (by decide) (by decide) ?_
  refine Go.iconst X2 hx (hb hby d2_18) rfl (0 : Int32) rfl ?_
  exact Go.retZ X2 hx (z' := (0 : Int32)) hret hlk (hb hby d2_19) rfl (by decide) ⟨rfl, rfl, e2⟩ (Nat.le_of_ble_eq_true rfl) (Nat.le_of_ble_eq_true rfl)
theorem d3_0 : decode prog_5_method_7_code 0 = .ok (.aload_n 1, 1) := by decide +kernel
theorem d3_1 : decode prog_5_method_7_code 1 = .ok (.invokevirtual 54, 3) := by decide +kernel
theorem d3_4 : decode prog_5_method_7_code 4 = .ok (.tableswitch 36 0 4 #[46, 50, 65, 87, 102], 36) := by decide +kernel
theorem d3_40 : decode prog_5_method_7_code 40 = .ok (.new 58, 3) := by decide +kernel
theorem d3_43 : decode prog_5_method_7_code 43 = .ok (.dup, 1) := by decide +kernel
theorem d3_44 : decode prog_5_method_7_code 44 = .ok (.aconst_null, 1) := by decide +kernel
theorem d3_45 : decode prog_5_method_7_code 45 = .ok (.aconst_null, 1) := by decide +kernel
theorem d3_46 : decode prog_5_method_7_code 46 = .ok (.invokespecial 60, 3) := by decide +kernel
theorem d3_49 : decode prog_5_method_7_code 49 = .ok (.athrow, 1) := by decide +kernel
theorem d3_50 : decode prog_5_method_7_code 50 = .ok (.iconst 0, 1) := by decide +kernel
theorem d3_51 : decode prog_5_method_7_code 51 = .ok (.goto 67, 3) := by decide +kernel
theorem d3_54 : decode prog_5_method_7_code 54 = .ok (.aload_n 0, 1) := by decide +kernel
theorem d3_55 : decode prog_5_method_7_code 55 = .ok (.getstatic 3, 3) := by decide +kernel
theorem d3_58 : decode prog_5_method_7_code 58 = .ok (.if_acmp .ne 7, 3) := by decide +kernel
theorem d3_61 : decode prog_5_method_7_code 61 = .ok (.iconst 1, 1) := by decide +kernel
theorem d3_62 : decode prog_5_method_7_code 62 = .ok (.goto 56, 3) := by decide +kernel
theorem d3_65 : decode prog_5_method_7_code 65 = .ok (.iconst 0, 1) := by decide +kernel
theorem d3_66 : decode prog_5_method_7_code 66 = .ok (.goto 52, 3) := by decide +kernel
theorem d3_69 : decode prog_5_method_7_code 69 = .ok (.aload_n 0, 1) := by decide +kernel
theorem d3_70 : decode prog_5_method_7_code 70 = .ok (.getstatic 3, 3) := by decide +kernel
theorem d3_73 : decode prog_5_method_7_code 73 = .ok (.if_acmp .eq 10, 3) := by decide +kernel
theorem d3_76 : decode prog_5_method_7_code 76 = .ok (.aload_n 0, 1) := by decide +kernel
theorem d3_77 : decode prog_5_method_7_code 77 = .ok (.getstatic 7, 3) := by decide +kernel
theorem d3_80 : decode prog_5_method_7_code 80 = .ok (.if_acmp .ne 7, 3) := by decide +kernel
theorem d3_83 : decode prog_5_method_7_code 83 = .ok (.iconst 1, 1) := by decide +kernel
theorem d3_84 : decode prog_5_method_7_code 84 = .ok (.goto 34, 3) := by decide +kernel
theorem d3_87 : decode prog_5_method_7_code 87 = .ok (.iconst 0, 1) := by decide +kernel
theorem d3_88 : decode prog_5_method_7_code 88 = .ok (.goto 30, 3) := by decide +kernel
theorem d3_91 : decode prog_5_method_7_code 91 = .ok (.aload_n 0, 1) := by decide +kernel
theorem d3_92 : decode prog_5_method_7_code 92 = .ok (.getstatic 7, 3) := by decide +kernel
theorem d3_95 : decode prog_5_method_7_code 95 = .ok (.if_acmp .ne 7, 3) := by decide +kernel
theorem d3_98 : decode prog_5_method_7_code 98 = .ok (.iconst 1, 1) := by decide +kernel
theorem d3_99 : decode prog_5_method_7_code 99 = .ok (.goto 19, 3) := by decide +kernel
theorem d3_102 : decode prog_5_method_7_code 102 = .ok (.iconst 0, 1) := by decide +kernel
theorem d3_103 : decode prog_5_method_7_code 103 = .ok (.goto 15, 3) := by decide +kernel
theorem d3_106 : decode prog_5_method_7_code 106 = .ok (.aload_n 0, 1) := by decide +kernel
theorem d3_107 : decode prog_5_method_7_code 107 = .ok (.getstatic 10, 3) := by decide +kernel
theorem d3_110 : decode prog_5_method_7_code 110 = .ok (.if_acmp .ne 7, 3) := by decide +kernel
theorem d3_113 : decode prog_5_method_7_code 113 = .ok (.iconst 1, 1) := by decide +kernel
theorem d3_114 : decode prog_5_method_7_code 114 = .ok (.goto 4, 3) := by decide +kernel
theorem d3_117 : decode prog_5_method_7_code 117 = .ok (.iconst 0, 1) := by decide +kernel
theorem d3_118 : decode prog_5_method_7_code 118 = .ok (.ireturn, 1) := by decide +kernel
theorem ef_3 (m : MethodId) (x0 : Addr) (x1 : Addr) : entryFrame m #[(.ref x0), (.ref x1)] 2 = mkF m 0 #[.val (.ref x0), .val (.ref x1)] [] := by first | (simp [entryFrame, mkF, argsToLocals, Value.category]; done) | rfl
theorem d4_0 : decode jdk_37_method_2_code 0 = .ok (.aload_n 0, 1) := by decide +kernel
theorem d4_1 : decode jdk_37_method_2_code 1 = .ok (.getfield 7, 3) := by decide +kernel
theorem d4_4 : decode jdk_37_method_2_code 4 = .ok (.ireturn, 1) := by decide +kernel
theorem pn_4 : plainName "java/lang/Enum" = true := by first | (simp [plainName, overriddenIn]; done) | decide +kernel
theorem ef_4 (m : MethodId) (x0 : Addr) : entryFrame m #[(.ref x0)] 1 = mkF m 0 #[.val (.ref x0)] [] := by first | (simp [entryFrame, mkF, argsToLocals, Value.category]; done) | rfl
set_option maxRecDepth 65536 in
set_option maxHeartbeats 40000000 in
theorem sp4_4 (l : Launch) (Z : State) (a0 : Array Value) (hw : ∀ d ∈ tables_1, d.before a0 Z = true) (a_OPEN : Addr) (a_CLOSED : Addr) (a_CANCELLED : Addr) (a_CLOSING : Addr) (a_CANCELLING : Addr)  (h0 : Heap) (O0 : Old Z Z.heap.size h0) (FF : Facts Z a_OPEN a_CLOSED a_CANCELLED a_CLOSING a_CANCELLING) : Pur l Z (⟨"java/lang/Enum", "ordinal", "()I"⟩ : MethodName) jdk_37_method_2_code 1 (some .int) 0 0 #[(.ref a_OPEN)] h0 (some (.int (0 : Int32))) := by
  refine Ctr.of (plainFor_of_name pn_4) ?_
  have wd : ∀ {d : Jvm.Cond} (i : Nat), tables_1[i]? = some d → d.before a0 Z = true := fun i q => hw _ (List.mem_of_getElem? q)
  intro p e s m below meth c s₁ hx hby hml hown hnm hret hlk hZ X0 e0
  have FF' := FF
  obtain ⟨S_OPEN, E_OPEN, S_CLOSED, E_CLOSED, F_OPEN_ordinal, F_CLOSED_ordinal, S_CANCELLED, E_CANCELLED, F_CANCELLED_ordinal, S_CLOSING, E_CLOSING, F_CLOSING_ordinal, S_CANCELLING, E_CANCELLING, F_CANCELLING_ordinal, ne_OPEN_CLOSING, ne_OPEN_CANCELLING, ne_OPEN_CLOSED, ne_OPEN_CANCELLED, ne_CLOSING_CANCELLING, ne_CLOSING_CLOSED, ne_CLOSING_CANCELLED, ne_CANCELLING_CLOSED, ne_CANCELLING_CANCELLED, ne_CLOSED_CANCELLED⟩ := FF'
  refine Go.cast (ef_4 m a_OPEN) ?_
  show Go p e below _ s₁ (mkF m 0 #[.val (.ref a_OPEN)] [])
  refine Go.aloadN X0 hx (hb hby d4_0) rfl rfl rfl ?_
  refine Go.getF X0 hx hZ hown (host := "") (Or.inl (wd 29 rfl)) Via.refl e0 (F_OPEN_ordinal.ext O0.2) (hb hby d4_1) rfl ?_
  intro T1 X1 e1
  exact Go.retI X1 hx hret hlk (hb hby d4_4) rfl ⟨rfl, rfl, e1⟩ (Nat.le_of_ble_eq_true rfl) (Nat.le_of_ble_eq_true rfl)
set_option maxRecDepth 65536 in
set_option maxHeartbeats 40000000 in
theorem sp3_3 (l : Launch) (Z : State) (a0 : Array Value) (hw : ∀ d ∈ tables_1, d.before a0 Z = true) (a_OPEN : Addr) (a_CLOSED : Addr) (a_CANCELLED : Addr) (a_CLOSING : Addr) (a_CANCELLING : Addr)  (h0 : Heap) (O0 : Old Z Z.heap.size h0) (FF : Facts Z a_OPEN a_CLOSED a_CANCELLED a_CLOSING a_CANCELLING) : Pur l Z (⟨"com/example/nursery/nursery/NurseryState", "canMoveTo", "(Lcom/example/nursery/nursery/NurseryState;)Z"⟩ : MethodName) prog_5_method_7_code 2 (some .boolean) 1 12 #[(.ref a_OPEN), (.ref a_OPEN)] h0 (some (.int (0 : Int32))) := by
  refine Ctr.of (plainFor_of_name pn_2) ?_
  have wd : ∀ {d : Jvm.Cond} (i : Nat), tables_1[i]? = some d → d.before a0 Z = true := fun i q => hw _ (List.mem_of_getElem? q)
  intro p e s m below meth c s₁ hx hby hml hown hnm hret hlk hZ X0 e0
  have FF' := FF
  obtain ⟨S_OPEN, E_OPEN, S_CLOSED, E_CLOSED, F_OPEN_ordinal, F_CLOSED_ordinal, S_CANCELLED, E_CANCELLED, F_CANCELLED_ordinal, S_CLOSING, E_CLOSING, F_CLOSING_ordinal, S_CANCELLING, E_CANCELLING, F_CANCELLING_ordinal, ne_OPEN_CLOSING, ne_OPEN_CANCELLING, ne_OPEN_CLOSED, ne_OPEN_CANCELLED, ne_CLOSING_CANCELLING, ne_CLOSING_CLOSED, ne_CLOSING_CANCELLED, ne_CANCELLING_CLOSED, ne_CANCELLING_CANCELLED, ne_CLOSED_CANCELLED⟩ := FF'
  refine Go.cast (ef_3 m a_OPEN a_OPEN) ?_
  show Go p e below _ s₁ (mkF m 0 #[.val (.ref a_OPEN), .val (.ref a_OPEN)] [])
  refine Go.aloadN X0 hx (hb hby d3_0) rfl rfl rfl ?_
  refine Go.pureU X0 hx hZ (ow := "java/lang/Enum") hown (wd 22 rfl) (wd 23 rfl) (wd 24 rfl) (wd 26 rfl) (wd 25 rfl) (wd 27 rfl) (wd 28 rfl) (by decide) [] [] (E_OPEN.ext O0.2) (sp4_4 l Z a0 hw a_OPEN a_CLOSED a_CANCELLED a_CLOSING a_CANCELLING  h0 O0 FF) e0 rfl (by rw [hml]; rfl) pd_2 rfl (hb hby d3_1) (Nat.le_of_ble_eq_true rfl) (Nat.le_of_ble_eq_true rfl) (Nat.le_of_ble_eq_true rfl) (Nat.le_of_ble_eq_true rfl) ?_
  intro T1 X1 e1
  refine Go.tswIn X1 hx (o := 46) (hb hby d3_4) rfl 50 (by decide) (by decide) (by decide) (by decide) ?_
  refine Go.iconst X1 hx (hb hby d3_50) rfl (0 : Int32) rfl ?_
  refine Go.goto X1 hx (hb hby d3_51) rfl 118 (by decide) (by decide) ?_
  exact Go.retZ X1 hx (z' := (0 : Int32)) hret hlk (hb hby d3_118) rfl (by decide) ⟨rfl, rfl, e1⟩ (Nat.le_of_ble_eq_true rfl) (Nat.le_of_ble_eq_true rfl)
set_option maxRecDepth 65536 in
set_option maxHeartbeats 40000000 in
theorem sp4_6 (l : Launch) (Z : State) (a0 : Array Value) (hw : ∀ d ∈ tables_1, d.before a0 Z = true) (a_OPEN : Addr) (a_CLOSED : Addr) (a_CANCELLED : Addr) (a_CLOSING : Addr) (a_CANCELLING : Addr)  (h0 : Heap) (O0 : Old Z Z.heap.size h0) (FF : Facts Z a_OPEN a_CLOSED a_CANCELLED a_CLOSING a_CANCELLING) : Pur l Z (⟨"java/lang/Enum", "ordinal", "()I"⟩ : MethodName) jdk_37_method_2_code 1 (some .int) 0 0 #[(.ref a_CLOSING)] h0 (some (.int (1 : Int32))) := by
  refine Ctr.of (plainFor_of_name pn_4) ?_
  have wd : ∀ {d : Jvm.Cond} (i : Nat), tables_1[i]? = some d → d.before a0 Z = true := fun i q => hw _ (List.mem_of_getElem? q)
  intro p e s m below meth c s₁ hx hby hml hown hnm hret hlk hZ X0 e0
  have FF' := FF
  obtain ⟨S_OPEN, E_OPEN, S_CLOSED, E_CLOSED, F_OPEN_ordinal, F_CLOSED_ordinal, S_CANCELLED, E_CANCELLED, F_CANCELLED_ordinal, S_CLOSING, E_CLOSING, F_CLOSING_ordinal, S_CANCELLING, E_CANCELLING, F_CANCELLING_ordinal, ne_OPEN_CLOSING, ne_OPEN_CANCELLING, ne_OPEN_CLOSED, ne_OPEN_CANCELLED, ne_CLOSING_CANCELLING, ne_CLOSING_CLOSED, ne_CLOSING_CANCELLED, ne_CANCELLING_CLOSED, ne_CANCELLING_CANCELLED, ne_CLOSED_CANCELLED⟩ := FF'
  refine Go.cast (ef_4 m a_CLOSING) ?_
  show Go p e below _ s₁ (mkF m 0 #[.val (.ref a_CLOSING)] [])
  refine Go.aloadN X0 hx (hb hby d4_0) rfl rfl rfl ?_
  refine Go.getF X0 hx hZ hown (host := "") (Or.inl (wd 29 rfl)) Via.refl e0 (F_CLOSING_ordinal.ext O0.2) (hb hby d4_1) rfl ?_
  intro T1 X1 e1
  exact Go.retI X1 hx hret hlk (hb hby d4_4) rfl ⟨rfl, rfl, e1⟩ (Nat.le_of_ble_eq_true rfl) (Nat.le_of_ble_eq_true rfl)
set_option maxRecDepth 65536 in
set_option maxHeartbeats 40000000 in
theorem sp3_5 (l : Launch) (Z : State) (a0 : Array Value) (hw : ∀ d ∈ tables_1, d.before a0 Z = true) (a_OPEN : Addr) (a_CLOSED : Addr) (a_CANCELLED : Addr) (a_CLOSING : Addr) (a_CANCELLING : Addr)  (h0 : Heap) (O0 : Old Z Z.heap.size h0) (FF : Facts Z a_OPEN a_CLOSED a_CANCELLED a_CLOSING a_CANCELLING) : Pur l Z (⟨"com/example/nursery/nursery/NurseryState", "canMoveTo", "(Lcom/example/nursery/nursery/NurseryState;)Z"⟩ : MethodName) prog_5_method_7_code 2 (some .boolean) 1 12 #[(.ref a_OPEN), (.ref a_CLOSING)] h0 (some (.int (1 : Int32))) := by
  refine Ctr.of (plainFor_of_name pn_2) ?_
  have wd : ∀ {d : Jvm.Cond} (i : Nat), tables_1[i]? = some d → d.before a0 Z = true := fun i q => hw _ (List.mem_of_getElem? q)
  intro p e s m below meth c s₁ hx hby hml hown hnm hret hlk hZ X0 e0
  have FF' := FF
  obtain ⟨S_OPEN, E_OPEN, S_CLOSED, E_CLOSED, F_OPEN_ordinal, F_CLOSED_ordinal, S_CANCELLED, E_CANCELLED, F_CANCELLED_ordinal, S_CLOSING, E_CLOSING, F_CLOSING_ordinal, S_CANCELLING, E_CANCELLING, F_CANCELLING_ordinal, ne_OPEN_CLOSING, ne_OPEN_CANCELLING, ne_OPEN_CLOSED, ne_OPEN_CANCELLED, ne_CLOSING_CANCELLING, ne_CLOSING_CLOSED, ne_CLOSING_CANCELLED, ne_CANCELLING_CLOSED, ne_CANCELLING_CANCELLED, ne_CLOSED_CANCELLED⟩ := FF'
  refine Go.cast (ef_3 m a_OPEN a_CLOSING) ?_
  show Go p e below _ s₁ (mkF m 0 #[.val (.ref a_OPEN), .val (.ref a_CLOSING)] [])
  refine Go.aloadN X0 hx (hb hby d3_0) rfl rfl rfl ?_
  refine Go.pureU X0 hx hZ (ow := "java/lang/Enum") hown (wd 22 rfl) (wd 23 rfl) (wd 24 rfl) (wd 26 rfl) (wd 25 rfl) (wd 27 rfl) (wd 28 rfl) (by decide) [] [] (E_CLOSING.ext O0.2) (sp4_6 l Z a0 hw a_OPEN a_CLOSED a_CANCELLED a_CLOSING a_CANCELLING  h0 O0 FF) e0 rfl (by rw [hml]; rfl) pd_2 rfl (hb hby d3_1) (Nat.le_of_ble_eq_true rfl) (Nat.le_of_ble_eq_true rfl) (Nat.le_of_ble_eq_true rfl) (Nat.le_of_ble_eq_true rfl) ?_
  intro T1 X1 e1
  refine Go.tswIn X1 hx (o := 50) (hb hby d3_4) rfl 54 (by decide) (by decide) (by decide) (by decide) ?_
  refine Go.aloadN X1 hx (hb hby d3_54) rfl rfl rfl ?_
  refine Go.getS X1 hx hZ hown (host := "") (Or.inl (wd 33 rfl)) Via.refl e1 (S_OPEN.ext O0.2) (hb hby d3_55) rfl ?_
  intro T2 X2 e2
  refine Go.acmp X2 hx (hb hby d3_58) rfl rfl rfl true (decide_eq_true rfl) 61 (by decide) (by decide) ?_
  refine Go.iconst X2 hx (hb hby d3_61) rfl (1 : Int32) rfl ?_
  refine Go.goto X2 hx (hb hby d3_62) rfl 118 (by decide) (by decide) ?_
  exact Go.retZ X2 hx (z' := (1 : Int32)) hret hlk (hb hby d3_118) rfl (by decide) ⟨rfl, rfl, e2⟩ (Nat.le_of_ble_eq_true rfl) (Nat.le_of_ble_eq_true rfl)
set_option maxRecDepth 65536 in
set_option maxHeartbeats 40000000 in
theorem sp1_7 (l : Launch) (Z : State) (a0 : Array Value) (hw : ∀ d ∈ tables_1, d.before a0 Z = true) (a_OPEN : Addr) (a_CLOSED : Addr) (a_CANCELLED : Addr) (a_CLOSING : Addr) (a_CANCELLING : Addr)  (h0 : Heap) (O0 : Old Z Z.heap.size h0) (FF : Facts Z a_OPEN a_CLOSED a_CANCELLED a_CLOSING a_CANCELLING) : Pur l Z (⟨"com/example/nursery/nursery/NurseryStateIsTerminalPinLaw", "pick", "(I)Lcom/example/nursery/nursery/NurseryState;"⟩ : MethodName) method_3_code 1 (some (.object "com/example/nursery/nursery/NurseryState")) 0 0 #[(.int (1 : Int32))] h0 (some (.ref a_CLOSING)) := by
  refine Ctr.of (plainFor_of_name pn_0) ?_
  have wd : ∀ {d : Jvm.Cond} (i : Nat), tables_1[i]? = some d → d.before a0 Z = true := fun i q => hw _ (List.mem_of_getElem? q)
  intro p e s m below meth c s₁ hx hby hml hown hnm hret hlk hZ X0 e0
  have FF' := FF
  obtain ⟨S_OPEN, E_OPEN, S_CLOSED, E_CLOSED, F_OPEN_ordinal, F_CLOSED_ordinal, S_CANCELLED, E_CANCELLED, F_CANCELLED_ordinal, S_CLOSING, E_CLOSING, F_CLOSING_ordinal, S_CANCELLING, E_CANCELLING, F_CANCELLING_ordinal, ne_OPEN_CLOSING, ne_OPEN_CANCELLING, ne_OPEN_CLOSED, ne_OPEN_CANCELLED, ne_CLOSING_CANCELLING, ne_CLOSING_CLOSED, ne_CLOSING_CANCELLED, ne_CANCELLING_CLOSED, ne_CANCELLING_CANCELLED, ne_CLOSED_CANCELLED⟩ := FF'
  refine Go.cast (ef_1 m (1 : Int32)) ?_
  show Go p e below _ s₁ (mkF m 0 #[.val (.int (1 : Int32))] [])
  refine Go.iloadN X0 hx (hb hby d1_0) rfl rfl  ?_
  refine Go.ifYes X0 hx (hb hby d1_1) rfl 8 ((if0 _ _).trans (feq (by decide : ¬ ((1 : Int32) = (0 : Int32)))).2) (by decide) (by decide) ?_
  refine Go.iloadN X0 hx (hb hby d1_8) rfl rfl  ?_
  refine Go.iconst X0 hx (hb hby d1_9) rfl (1 : Int32) rfl ?_
  refine Go.icmpNo X0 hx (hb hby d1_10) rfl (teq (by decide : (1 : Int32) = (1 : Int32))).2 ?_
  refine Go.getS X0 hx hZ hown (host := "") (Or.inl (wd 31 rfl)) Via.refl e0 (S_CLOSING.ext O0.2) (hb hby d1_13) rfl ?_
  intro T1 X1 e1
  exact Go.retA X1 hx hret hlk rfl rfl (hb hby d1_16) rfl ⟨rfl, rfl, e1⟩ (Nat.le_of_ble_eq_true rfl) (Nat.le_of_ble_eq_true rfl)
set_option maxRecDepth 65536 in
set_option maxHeartbeats 40000000 in
theorem sp2_8 (l : Launch) (Z : State) (a0 : Array Value) (hw : ∀ d ∈ tables_1, d.before a0 Z = true) (a_OPEN : Addr) (a_CLOSED : Addr) (a_CANCELLED : Addr) (a_CLOSING : Addr) (a_CANCELLING : Addr)  (h0 : Heap) (O0 : Old Z Z.heap.size h0) (FF : Facts Z a_OPEN a_CLOSED a_CANCELLED a_CLOSING a_CANCELLING) : Pur l Z (⟨"com/example/nursery/nursery/NurseryState", "isTerminal", "()Z"⟩ : MethodName) prog_5_method_6_code 1 (some .boolean) 0 0 #[(.ref a_CLOSING)] h0 (some (.int (0 : Int32))) := by
  refine Ctr.of (plainFor_of_name pn_2) ?_
  have wd : ∀ {d : Jvm.Cond} (i : Nat), tables_1[i]? = some d → d.before a0 Z = true := fun i q => hw _ (List.mem_of_getElem? q)
  intro p e s m below meth c s₁ hx hby hml hown hnm hret hlk hZ X0 e0
  have FF' := FF
  obtain ⟨S_OPEN, E_OPEN, S_CLOSED, E_CLOSED, F_OPEN_ordinal, F_CLOSED_ordinal, S_CANCELLED, E_CANCELLED, F_CANCELLED_ordinal, S_CLOSING, E_CLOSING, F_CLOSING_ordinal, S_CANCELLING, E_CANCELLING, F_CANCELLING_ordinal, ne_OPEN_CLOSING, ne_OPEN_CANCELLING, ne_OPEN_CLOSED, ne_OPEN_CANCELLED, ne_CLOSING_CANCELLING, ne_CLOSING_CLOSED, ne_CLOSING_CANCELLED, ne_CANCELLING_CLOSED, ne_CANCELLING_CANCELLED, ne_CLOSED_CANCELLED⟩ := FF'
  refine Go.cast (ef_2 m a_CLOSING) ?_
  show Go p e below _ s₁ (mkF m 0 #[.val (.ref a_CLOSING)] [])
  refine Go.aloadN X0 hx (hb hby d2_0) rfl rfl rfl ?_
  refine Go.getS X0 hx hZ hown (host := "") (Or.inl (wd 13 rfl)) Via.refl e0 (S_CLOSED.ext O0.2) (hb hby d2_1) rfl ?_
  intro T1 X1 e1
  refine Go.acmp X1 hx (hb hby d2_4) rfl rfl rfl false (decide_eq_false fun q => ne_CLOSING_CLOSED (Value.ref.inj q)) 7 (by decide) (by decide) ?_
  refine Go.aloadN X1 hx (hb hby d2_7) rfl rfl rfl ?_
  refine Go.getS X1 hx hZ hown (host := "") (Or.inl (wd 15 rfl)) Via.refl e1 (S_CANCELLED.ext O0.2) (hb hby d2_8) rfl ?_
  intro T2 X2 e2
  refine Go.acmp X2 hx (hb hby d2_11) rfl rfl rfl false (decide_eq_false fun q => ne_CLOSING_CANCELLED (Value.ref.inj q)) 18 (by decide) (by decide) ?_
  refine Go.iconst X2 hx (hb hby d2_18) rfl (0 : Int32) rfl ?_
  exact Go.retZ X2 hx (z' := (0 : Int32)) hret hlk (hb hby d2_19) rfl (by decide) ⟨rfl, rfl, e2⟩ (Nat.le_of_ble_eq_true rfl) (Nat.le_of_ble_eq_true rfl)
set_option maxRecDepth 65536 in
set_option maxHeartbeats 40000000 in
theorem sp3_9 (l : Launch) (Z : State) (a0 : Array Value) (hw : ∀ d ∈ tables_1, d.before a0 Z = true) (a_OPEN : Addr) (a_CLOSED : Addr) (a_CANCELLED : Addr) (a_CLOSING : Addr) (a_CANCELLING : Addr)  (h0 : Heap) (O0 : Old Z Z.heap.size h0) (FF : Facts Z a_OPEN a_CLOSED a_CANCELLED a_CLOSING a_CANCELLING) : Pur l Z (⟨"com/example/nursery/nursery/NurseryState", "canMoveTo", "(Lcom/example/nursery/nursery/NurseryState;)Z"⟩ : MethodName) prog_5_method_7_code 2 (some .boolean) 1 12 #[(.ref a_CLOSING), (.ref a_OPEN)] h0 (some (.int (0 : Int32))) := by
  refine Ctr.of (plainFor_of_name pn_2) ?_
  have wd : ∀ {d : Jvm.Cond} (i : Nat), tables_1[i]? = some d → d.before a0 Z = true := fun i q => hw _ (List.mem_of_getElem? q)
  intro p e s m below meth c s₁ hx hby hml hown hnm hret hlk hZ X0 e0
  have FF' := FF
  obtain ⟨S_OPEN, E_OPEN, S_CLOSED, E_CLOSED, F_OPEN_ordinal, F_CLOSED_ordinal, S_CANCELLED, E_CANCELLED, F_CANCELLED_ordinal, S_CLOSING, E_CLOSING, F_CLOSING_ordinal, S_CANCELLING, E_CANCELLING, F_CANCELLING_ordinal, ne_OPEN_CLOSING, ne_OPEN_CANCELLING, ne_OPEN_CLOSED, ne_OPEN_CANCELLED, ne_CLOSING_CANCELLING, ne_CLOSING_CLOSED, ne_CLOSING_CANCELLED, ne_CANCELLING_CLOSED, ne_CANCELLING_CANCELLED, ne_CLOSED_CANCELLED⟩ := FF'
  refine Go.cast (ef_3 m a_CLOSING a_OPEN) ?_
  show Go p e below _ s₁ (mkF m 0 #[.val (.ref a_CLOSING), .val (.ref a_OPEN)] [])
  refine Go.aloadN X0 hx (hb hby d3_0) rfl rfl rfl ?_
  refine Go.pureU X0 hx hZ (ow := "java/lang/Enum") hown (wd 22 rfl) (wd 23 rfl) (wd 24 rfl) (wd 26 rfl) (wd 25 rfl) (wd 27 rfl) (wd 28 rfl) (by decide) [] [] (E_OPEN.ext O0.2) (sp4_4 l Z a0 hw a_OPEN a_CLOSED a_CANCELLED a_CLOSING a_CANCELLING  h0 O0 FF) e0 rfl (by rw [hml]; rfl) pd_2 rfl (hb hby d3_1) (Nat.le_of_ble_eq_true rfl) (Nat.le_of_ble_eq_true rfl) (Nat.le_of_ble_eq_true rfl) (Nat.le_of_ble_eq_true rfl) ?_
  intro T1 X1 e1
  refine Go.tswIn X1 hx (o := 46) (hb hby d3_4) rfl 50 (by decide) (by decide) (by decide) (by decide) ?_
  refine Go.iconst X1 hx (hb hby d3_50) rfl (0 : Int32) rfl ?_
  refine Go.goto X1 hx (hb hby d3_51) rfl 118 (by decide) (by decide) ?_
  exact Go.retZ X1 hx (z' := (0 : Int32)) hret hlk (hb hby d3_118) rfl (by decide) ⟨rfl, rfl, e1⟩ (Nat.le_of_ble_eq_true rfl) (Nat.le_of_ble_eq_true rfl)
set_option maxRecDepth 65536 in
set_option maxHeartbeats 40000000 in
theorem sp3_10 (l : Launch) (Z : State) (a0 : Array Value) (hw : ∀ d ∈ tables_1, d.before a0 Z = true) (a_OPEN : Addr) (a_CLOSED : Addr) (a_CANCELLED : Addr) (a_CLOSING : Addr) (a_CANCELLING : Addr)  (h0 : Heap) (O0 : Old Z Z.heap.size h0) (FF : Facts Z a_OPEN a_CLOSED a_CANCELLED a_CLOSING a_CANCELLING) : Pur l Z (⟨"com/example/nursery/nursery/NurseryState", "canMoveTo", "(Lcom/example/nursery/nursery/NurseryState;)Z"⟩ : MethodName) prog_5_method_7_code 2 (some .boolean) 1 12 #[(.ref a_CLOSING), (.ref a_CLOSING)] h0 (some (.int (0 : Int32))) := by
  refine Ctr.of (plainFor_of_name pn_2) ?_
  have wd : ∀ {d : Jvm.Cond} (i : Nat), tables_1[i]? = some d → d.before a0 Z = true := fun i q => hw _ (List.mem_of_getElem? q)
  intro p e s m below meth c s₁ hx hby hml hown hnm hret hlk hZ X0 e0
  have FF' := FF
  obtain ⟨S_OPEN, E_OPEN, S_CLOSED, E_CLOSED, F_OPEN_ordinal, F_CLOSED_ordinal, S_CANCELLED, E_CANCELLED, F_CANCELLED_ordinal, S_CLOSING, E_CLOSING, F_CLOSING_ordinal, S_CANCELLING, E_CANCELLING, F_CANCELLING_ordinal, ne_OPEN_CLOSING, ne_OPEN_CANCELLING, ne_OPEN_CLOSED, ne_OPEN_CANCELLED, ne_CLOSING_CANCELLING, ne_CLOSING_CLOSED, ne_CLOSING_CANCELLED, ne_CANCELLING_CLOSED, ne_CANCELLING_CANCELLED, ne_CLOSED_CANCELLED⟩ := FF'
  refine Go.cast (ef_3 m a_CLOSING a_CLOSING) ?_
  show Go p e below _ s₁ (mkF m 0 #[.val (.ref a_CLOSING), .val (.ref a_CLOSING)] [])
  refine Go.aloadN X0 hx (hb hby d3_0) rfl rfl rfl ?_
  refine Go.pureU X0 hx hZ (ow := "java/lang/Enum") hown (wd 22 rfl) (wd 23 rfl) (wd 24 rfl) (wd 26 rfl) (wd 25 rfl) (wd 27 rfl) (wd 28 rfl) (by decide) [] [] (E_CLOSING.ext O0.2) (sp4_6 l Z a0 hw a_OPEN a_CLOSED a_CANCELLED a_CLOSING a_CANCELLING  h0 O0 FF) e0 rfl (by rw [hml]; rfl) pd_2 rfl (hb hby d3_1) (Nat.le_of_ble_eq_true rfl) (Nat.le_of_ble_eq_true rfl) (Nat.le_of_ble_eq_true rfl) (Nat.le_of_ble_eq_true rfl) ?_
  intro T1 X1 e1
  refine Go.tswIn X1 hx (o := 50) (hb hby d3_4) rfl 54 (by decide) (by decide) (by decide) (by decide) ?_
  refine Go.aloadN X1 hx (hb hby d3_54) rfl rfl rfl ?_
  refine Go.getS X1 hx hZ hown (host := "") (Or.inl (wd 33 rfl)) Via.refl e1 (S_OPEN.ext O0.2) (hb hby d3_55) rfl ?_
  intro T2 X2 e2
  refine Go.acmp X2 hx (hb hby d3_58) rfl rfl rfl false (decide_eq_false fun q => (Ne.symm ne_OPEN_CLOSING) (Value.ref.inj q)) 65 (by decide) (by decide) ?_
  refine Go.iconst X2 hx (hb hby d3_65) rfl (0 : Int32) rfl ?_
  refine Go.goto X2 hx (hb hby d3_66) rfl 118 (by decide) (by decide) ?_
  exact Go.retZ X2 hx (z' := (0 : Int32)) hret hlk (hb hby d3_118) rfl (by decide) ⟨rfl, rfl, e2⟩ (Nat.le_of_ble_eq_true rfl) (Nat.le_of_ble_eq_true rfl)
set_option maxRecDepth 65536 in
set_option maxHeartbeats 40000000 in
theorem sp4_12 (l : Launch) (Z : State) (a0 : Array Value) (hw : ∀ d ∈ tables_1, d.before a0 Z = true) (a_OPEN : Addr) (a_CLOSED : Addr) (a_CANCELLED : Addr) (a_CLOSING : Addr) (a_CANCELLING : Addr)  (h0 : Heap) (O0 : Old Z Z.heap.size h0) (FF : Facts Z a_OPEN a_CLOSED a_CANCELLED a_CLOSING a_CANCELLING) : Pur l Z (⟨"java/lang/Enum", "ordinal", "()I"⟩ : MethodName) jdk_37_method_2_code 1 (some .int) 0 0 #[(.ref a_CANCELLING)] h0 (some (.int (2 : Int32))) := by
  refine Ctr.of (plainFor_of_name pn_4) ?_
  have wd : ∀ {d : Jvm.Cond} (i : Nat), tables_1[i]? = some d → d.before a0 Z = true := fun i q => hw _ (List.mem_of_getElem? q)
  intro p e s m below meth c s₁ hx hby hml hown hnm hret hlk hZ X0 e0
  have FF' := FF
  obtain ⟨S_OPEN, E_OPEN, S_CLOSED, E_CLOSED, F_OPEN_ordinal, F_CLOSED_ordinal, S_CANCELLED, E_CANCELLED, F_CANCELLED_ordinal, S_CLOSING, E_CLOSING, F_CLOSING_ordinal, S_CANCELLING, E_CANCELLING, F_CANCELLING_ordinal, ne_OPEN_CLOSING, ne_OPEN_CANCELLING, ne_OPEN_CLOSED, ne_OPEN_CANCELLED, ne_CLOSING_CANCELLING, ne_CLOSING_CLOSED, ne_CLOSING_CANCELLED, ne_CANCELLING_CLOSED, ne_CANCELLING_CANCELLED, ne_CLOSED_CANCELLED⟩ := FF'
  refine Go.cast (ef_4 m a_CANCELLING) ?_
  show Go p e below _ s₁ (mkF m 0 #[.val (.ref a_CANCELLING)] [])
  refine Go.aloadN X0 hx (hb hby d4_0) rfl rfl rfl ?_
  refine Go.getF X0 hx hZ hown (host := "") (Or.inl (wd 29 rfl)) Via.refl e0 (F_CANCELLING_ordinal.ext O0.2) (hb hby d4_1) rfl ?_
  intro T1 X1 e1
  exact Go.retI X1 hx hret hlk (hb hby d4_4) rfl ⟨rfl, rfl, e1⟩ (Nat.le_of_ble_eq_true rfl) (Nat.le_of_ble_eq_true rfl)
set_option maxRecDepth 65536 in
set_option maxHeartbeats 40000000 in
theorem sp3_11 (l : Launch) (Z : State) (a0 : Array Value) (hw : ∀ d ∈ tables_1, d.before a0 Z = true) (a_OPEN : Addr) (a_CLOSED : Addr) (a_CANCELLED : Addr) (a_CLOSING : Addr) (a_CANCELLING : Addr)  (h0 : Heap) (O0 : Old Z Z.heap.size h0) (FF : Facts Z a_OPEN a_CLOSED a_CANCELLED a_CLOSING a_CANCELLING) : Pur l Z (⟨"com/example/nursery/nursery/NurseryState", "canMoveTo", "(Lcom/example/nursery/nursery/NurseryState;)Z"⟩ : MethodName) prog_5_method_7_code 2 (some .boolean) 1 12 #[(.ref a_CLOSING), (.ref a_CANCELLING)] h0 (some (.int (1 : Int32))) := by
  refine Ctr.of (plainFor_of_name pn_2) ?_
  have wd : ∀ {d : Jvm.Cond} (i : Nat), tables_1[i]? = some d → d.before a0 Z = true := fun i q => hw _ (List.mem_of_getElem? q)
  intro p e s m below meth c s₁ hx hby hml hown hnm hret hlk hZ X0 e0
  have FF' := FF
  obtain ⟨S_OPEN, E_OPEN, S_CLOSED, E_CLOSED, F_OPEN_ordinal, F_CLOSED_ordinal, S_CANCELLED, E_CANCELLED, F_CANCELLED_ordinal, S_CLOSING, E_CLOSING, F_CLOSING_ordinal, S_CANCELLING, E_CANCELLING, F_CANCELLING_ordinal, ne_OPEN_CLOSING, ne_OPEN_CANCELLING, ne_OPEN_CLOSED, ne_OPEN_CANCELLED, ne_CLOSING_CANCELLING, ne_CLOSING_CLOSED, ne_CLOSING_CANCELLED, ne_CANCELLING_CLOSED, ne_CANCELLING_CANCELLED, ne_CLOSED_CANCELLED⟩ := FF'
  refine Go.cast (ef_3 m a_CLOSING a_CANCELLING) ?_
  show Go p e below _ s₁ (mkF m 0 #[.val (.ref a_CLOSING), .val (.ref a_CANCELLING)] [])
  refine Go.aloadN X0 hx (hb hby d3_0) rfl rfl rfl ?_
  refine Go.pureU X0 hx hZ (ow := "java/lang/Enum") hown (wd 22 rfl) (wd 23 rfl) (wd 24 rfl) (wd 26 rfl) (wd 25 rfl) (wd 27 rfl) (wd 28 rfl) (by decide) [] [] (E_CANCELLING.ext O0.2) (sp4_12 l Z a0 hw a_OPEN a_CLOSED a_CANCELLED a_CLOSING a_CANCELLING  h0 O0 FF) e0 rfl (by rw [hml]; rfl) pd_2 rfl (hb hby d3_1) (Nat.le_of_ble_eq_true rfl) (Nat.le_of_ble_eq_true rfl) (Nat.le_of_ble_eq_true rfl) (Nat.le_of_ble_eq_true rfl) ?_
  intro T1 X1 e1
  refine Go.tswIn X1 hx (o := 65) (hb hby d3_4) rfl 69 (by decide) (by decide) (by decide) (by decide) ?_
  refine Go.aloadN X1 hx (hb hby d3_69) rfl rfl rfl ?_
  refine Go.getS X1 hx hZ hown (host := "") (Or.inl (wd 33 rfl)) Via.refl e1 (S_OPEN.ext O0.2) (hb hby d3_70) rfl ?_
  intro T2 X2 e2
  refine Go.acmp X2 hx (hb hby d3_73) rfl rfl rfl false (decide_eq_false fun q => (Ne.symm ne_OPEN_CLOSING) (Value.ref.inj q)) 76 (by decide) (by decide) ?_
  refine Go.aloadN X2 hx (hb hby d3_76) rfl rfl rfl ?_
  refine Go.getS X2 hx hZ hown (host := "") (Or.inl (wd 37 rfl)) Via.refl e2 (S_CLOSING.ext O0.2) (hb hby d3_77) rfl ?_
  intro T3 X3 e3
  refine Go.acmp X3 hx (hb hby d3_80) rfl rfl rfl true (decide_eq_true rfl) 83 (by decide) (by decide) ?_
  refine Go.iconst X3 hx (hb hby d3_83) rfl (1 : Int32) rfl ?_
  refine Go.goto X3 hx (hb hby d3_84) rfl 118 (by decide) (by decide) ?_
  exact Go.retZ X3 hx (z' := (1 : Int32)) hret hlk (hb hby d3_118) rfl (by decide) ⟨rfl, rfl, e3⟩ (Nat.le_of_ble_eq_true rfl) (Nat.le_of_ble_eq_true rfl)
set_option maxRecDepth 65536 in
set_option maxHeartbeats 40000000 in
theorem sp1_13 (l : Launch) (Z : State) (a0 : Array Value) (hw : ∀ d ∈ tables_1, d.before a0 Z = true) (a_OPEN : Addr) (a_CLOSED : Addr) (a_CANCELLED : Addr) (a_CLOSING : Addr) (a_CANCELLING : Addr)  (h0 : Heap) (O0 : Old Z Z.heap.size h0) (FF : Facts Z a_OPEN a_CLOSED a_CANCELLED a_CLOSING a_CANCELLING) : Pur l Z (⟨"com/example/nursery/nursery/NurseryStateIsTerminalPinLaw", "pick", "(I)Lcom/example/nursery/nursery/NurseryState;"⟩ : MethodName) method_3_code 1 (some (.object "com/example/nursery/nursery/NurseryState")) 0 0 #[(.int (2 : Int32))] h0 (some (.ref a_CANCELLING)) := by
  refine Ctr.of (plainFor_of_name pn_0) ?_
  have wd : ∀ {d : Jvm.Cond} (i : Nat), tables_1[i]? = some d → d.before a0 Z = true := fun i q => hw _ (List.mem_of_getElem? q)
  intro p e s m below meth c s₁ hx hby hml hown hnm hret hlk hZ X0 e0
  have FF' := FF
  obtain ⟨S_OPEN, E_OPEN, S_CLOSED, E_CLOSED, F_OPEN_ordinal, F_CLOSED_ordinal, S_CANCELLED, E_CANCELLED, F_CANCELLED_ordinal, S_CLOSING, E_CLOSING, F_CLOSING_ordinal, S_CANCELLING, E_CANCELLING, F_CANCELLING_ordinal, ne_OPEN_CLOSING, ne_OPEN_CANCELLING, ne_OPEN_CLOSED, ne_OPEN_CANCELLED, ne_CLOSING_CANCELLING, ne_CLOSING_CLOSED, ne_CLOSING_CANCELLED, ne_CANCELLING_CLOSED, ne_CANCELLING_CANCELLED, ne_CLOSED_CANCELLED⟩ := FF'
  refine Go.cast (ef_1 m (2 : Int32)) ?_
  show Go p e below _ s₁ (mkF m 0 #[.val (.int (2 : Int32))] [])
  refine Go.iloadN X0 hx (hb hby d1_0) rfl rfl  ?_
  refine Go.ifYes X0 hx (hb hby d1_1) rfl 8 ((if0 _ _).trans (feq (by decide : ¬ ((2 : Int32) = (0 : Int32)))).2) (by decide) (by decide) ?_
  refine Go.iloadN X0 hx (hb hby d1_8) rfl rfl  ?_
  refine Go.iconst X0 hx (hb hby d1_9) rfl (1 : Int32) rfl ?_
  refine Go.icmpYes X0 hx (hb hby d1_10) rfl 17 (feq (by decide : ¬ ((2 : Int32) = (1 : Int32)))).2 (by decide) (by decide) ?_
  refine Go.iloadN X0 hx (hb hby d1_17) rfl rfl  ?_
  refine Go.iconst X0 hx (hb hby d1_18) rfl (2 : Int32) rfl ?_
  refine Go.icmpNo X0 hx (hb hby d1_19) rfl (teq (by decide : (2 : Int32) = (2 : Int32))).2 ?_
  refine Go.getS X0 hx hZ hown (host := "") (Or.inl (wd 35 rfl)) Via.refl e0 (S_CANCELLING.ext O0.2) (hb hby d1_22) rfl ?_
  intro T1 X1 e1
  exact Go.retA X1 hx hret hlk rfl rfl (hb hby d1_25) rfl ⟨rfl, rfl, e1⟩ (Nat.le_of_ble_eq_true rfl) (Nat.le_of_ble_eq_true rfl)
set_option maxRecDepth 65536 in
set_option maxHeartbeats 40000000 in
theorem sp2_14 (l : Launch) (Z : State) (a0 : Array Value) (hw : ∀ d ∈ tables_1, d.before a0 Z = true) (a_OPEN : Addr) (a_CLOSED : Addr) (a_CANCELLED : Addr) (a_CLOSING : Addr) (a_CANCELLING : Addr)  (h0 : Heap) (O0 : Old Z Z.heap.size h0) (FF : Facts Z a_OPEN a_CLOSED a_CANCELLED a_CLOSING a_CANCELLING) : Pur l Z (⟨"com/example/nursery/nursery/NurseryState", "isTerminal", "()Z"⟩ : MethodName) prog_5_method_6_code 1 (some .boolean) 0 0 #[(.ref a_CANCELLING)] h0 (some (.int (0 : Int32))) := by
  refine Ctr.of (plainFor_of_name pn_2) ?_
  have wd : ∀ {d : Jvm.Cond} (i : Nat), tables_1[i]? = some d → d.before a0 Z = true := fun i q => hw _ (List.mem_of_getElem? q)
  intro p e s m below meth c s₁ hx hby hml hown hnm hret hlk hZ X0 e0
  have FF' := FF
  obtain ⟨S_OPEN, E_OPEN, S_CLOSED, E_CLOSED, F_OPEN_ordinal, F_CLOSED_ordinal, S_CANCELLED, E_CANCELLED, F_CANCELLED_ordinal, S_CLOSING, E_CLOSING, F_CLOSING_ordinal, S_CANCELLING, E_CANCELLING, F_CANCELLING_ordinal, ne_OPEN_CLOSING, ne_OPEN_CANCELLING, ne_OPEN_CLOSED, ne_OPEN_CANCELLED, ne_CLOSING_CANCELLING, ne_CLOSING_CLOSED, ne_CLOSING_CANCELLED, ne_CANCELLING_CLOSED, ne_CANCELLING_CANCELLED, ne_CLOSED_CANCELLED⟩ := FF'
  refine Go.cast (ef_2 m a_CANCELLING) ?_
  show Go p e below _ s₁ (mkF m 0 #[.val (.ref a_CANCELLING)] [])
  refine Go.aloadN X0 hx (hb hby d2_0) rfl rfl rfl ?_
  refine Go.getS X0 hx hZ hown (host := "") (Or.inl (wd 13 rfl)) Via.refl e0 (S_CLOSED.ext O0.2) (hb hby d2_1) rfl ?_
  intro T1 X1 e1
  refine Go.acmp X1 hx (hb hby d2_4) rfl rfl rfl false (decide_eq_false fun q => ne_CANCELLING_CLOSED (Value.ref.inj q)) 7 (by decide) (by decide) ?_
  refine Go.aloadN X1 hx (hb hby d2_7) rfl rfl rfl ?_
  refine Go.getS X1 hx hZ hown (host := "") (Or.inl (wd 15 rfl)) Via.refl e1 (S_CANCELLED.ext O0.2) (hb hby d2_8) rfl ?_
  intro T2 X2 e2
  refine Go.acmp X2 hx (hb hby d2_11) rfl rfl rfl false (decide_eq_false fun q => ne_CANCELLING_CANCELLED (Value.ref.inj q)) 18 (by decide) (by decide) ?_
  refine Go.iconst X2 hx (hb hby d2_18) rfl (0 : Int32) rfl ?_
  exact Go.retZ X2 hx (z' := (0 : Int32)) hret hlk (hb hby d2_19) rfl (by decide) ⟨rfl, rfl, e2⟩ (Nat.le_of_ble_eq_true rfl) (Nat.le_of_ble_eq_true rfl)
set_option maxRecDepth 65536 in
set_option maxHeartbeats 40000000 in
theorem sp3_15 (l : Launch) (Z : State) (a0 : Array Value) (hw : ∀ d ∈ tables_1, d.before a0 Z = true) (a_OPEN : Addr) (a_CLOSED : Addr) (a_CANCELLED : Addr) (a_CLOSING : Addr) (a_CANCELLING : Addr)  (h0 : Heap) (O0 : Old Z Z.heap.size h0) (FF : Facts Z a_OPEN a_CLOSED a_CANCELLED a_CLOSING a_CANCELLING) : Pur l Z (⟨"com/example/nursery/nursery/NurseryState", "canMoveTo", "(Lcom/example/nursery/nursery/NurseryState;)Z"⟩ : MethodName) prog_5_method_7_code 2 (some .boolean) 1 12 #[(.ref a_CANCELLING), (.ref a_OPEN)] h0 (some (.int (0 : Int32))) := by
  refine Ctr.of (plainFor_of_name pn_2) ?_
  have wd : ∀ {d : Jvm.Cond} (i : Nat), tables_1[i]? = some d → d.before a0 Z = true := fun i q => hw _ (List.mem_of_getElem? q)
  intro p e s m below meth c s₁ hx hby hml hown hnm hret hlk hZ X0 e0
  have FF' := FF
  obtain ⟨S_OPEN, E_OPEN, S_CLOSED, E_CLOSED, F_OPEN_ordinal, F_CLOSED_ordinal, S_CANCELLED, E_CANCELLED, F_CANCELLED_ordinal, S_CLOSING, E_CLOSING, F_CLOSING_ordinal, S_CANCELLING, E_CANCELLING, F_CANCELLING_ordinal, ne_OPEN_CLOSING, ne_OPEN_CANCELLING, ne_OPEN_CLOSED, ne_OPEN_CANCELLED, ne_CLOSING_CANCELLING, ne_CLOSING_CLOSED, ne_CLOSING_CANCELLED, ne_CANCELLING_CLOSED, ne_CANCELLING_CANCELLED, ne_CLOSED_CANCELLED⟩ := FF'
  refine Go.cast (ef_3 m a_CANCELLING a_OPEN) ?_
  show Go p e below _ s₁ (mkF m 0 #[.val (.ref a_CANCELLING), .val (.ref a_OPEN)] [])
  refine Go.aloadN X0 hx (hb hby d3_0) rfl rfl rfl ?_
  refine Go.pureU X0 hx hZ (ow := "java/lang/Enum") hown (wd 22 rfl) (wd 23 rfl) (wd 24 rfl) (wd 26 rfl) (wd 25 rfl) (wd 27 rfl) (wd 28 rfl) (by decide) [] [] (E_OPEN.ext O0.2) (sp4_4 l Z a0 hw a_OPEN a_CLOSED a_CANCELLED a_CLOSING a_CANCELLING  h0 O0 FF) e0 rfl (by rw [hml]; rfl) pd_2 rfl (hb hby d3_1) (Nat.le_of_ble_eq_true rfl) (Nat.le_of_ble_eq_true rfl) (Nat.le_of_ble_eq_true rfl) (Nat.le_of_ble_eq_true rfl) ?_
  intro T1 X1 e1
  refine Go.tswIn X1 hx (o := 46) (hb hby d3_4) rfl 50 (by decide) (by decide) (by decide) (by decide) ?_
  refine Go.iconst X1 hx (hb hby d3_50) rfl (0 : Int32) rfl ?_
  refine Go.goto X1 hx (hb hby d3_51) rfl 118 (by decide) (by decide) ?_
  exact Go.retZ X1 hx (z' := (0 : Int32)) hret hlk (hb hby d3_118) rfl (by decide) ⟨rfl, rfl, e1⟩ (Nat.le_of_ble_eq_true rfl) (Nat.le_of_ble_eq_true rfl)
set_option maxRecDepth 65536 in
set_option maxHeartbeats 40000000 in
theorem sp3_16 (l : Launch) (Z : State) (a0 : Array Value) (hw : ∀ d ∈ tables_1, d.before a0 Z = true) (a_OPEN : Addr) (a_CLOSED : Addr) (a_CANCELLED : Addr) (a_CLOSING : Addr) (a_CANCELLING : Addr)  (h0 : Heap) (O0 : Old Z Z.heap.size h0) (FF : Facts Z a_OPEN a_CLOSED a_CANCELLED a_CLOSING a_CANCELLING) : Pur l Z (⟨"com/example/nursery/nursery/NurseryState", "canMoveTo", "(Lcom/example/nursery/nursery/NurseryState;)Z"⟩ : MethodName) prog_5_method_7_code 2 (some .boolean) 1 12 #[(.ref a_CANCELLING), (.ref a_CLOSING)] h0 (some (.int (0 : Int32))) := by
  refine Ctr.of (plainFor_of_name pn_2) ?_
  have wd : ∀ {d : Jvm.Cond} (i : Nat), tables_1[i]? = some d → d.before a0 Z = true := fun i q => hw _ (List.mem_of_getElem? q)
  intro p e s m below meth c s₁ hx hby hml hown hnm hret hlk hZ X0 e0
  have FF' := FF
  obtain ⟨S_OPEN, E_OPEN, S_CLOSED, E_CLOSED, F_OPEN_ordinal, F_CLOSED_ordinal, S_CANCELLED, E_CANCELLED, F_CANCELLED_ordinal, S_CLOSING, E_CLOSING, F_CLOSING_ordinal, S_CANCELLING, E_CANCELLING, F_CANCELLING_ordinal, ne_OPEN_CLOSING, ne_OPEN_CANCELLING, ne_OPEN_CLOSED, ne_OPEN_CANCELLED, ne_CLOSING_CANCELLING, ne_CLOSING_CLOSED, ne_CLOSING_CANCELLED, ne_CANCELLING_CLOSED, ne_CANCELLING_CANCELLED, ne_CLOSED_CANCELLED⟩ := FF'
  refine Go.cast (ef_3 m a_CANCELLING a_CLOSING) ?_
  show Go p e below _ s₁ (mkF m 0 #[.val (.ref a_CANCELLING), .val (.ref a_CLOSING)] [])
  refine Go.aloadN X0 hx (hb hby d3_0) rfl rfl rfl ?_
  refine Go.pureU X0 hx hZ (ow := "java/lang/Enum") hown (wd 22 rfl) (wd 23 rfl) (wd 24 rfl) (wd 26 rfl) (wd 25 rfl) (wd 27 rfl) (wd 28 rfl) (by decide) [] [] (E_CLOSING.ext O0.2) (sp4_6 l Z a0 hw a_OPEN a_CLOSED a_CANCELLED a_CLOSING a_CANCELLING  h0 O0 FF) e0 rfl (by rw [hml]; rfl) pd_2 rfl (hb hby d3_1) (Nat.le_of_ble_eq_true rfl) (Nat.le_of_ble_eq_true rfl) (Nat.le_of_ble_eq_true rfl) (Nat.le_of_ble_eq_true rfl) ?_
  intro T1 X1 e1
  refine Go.tswIn X1 hx (o := 50) (hb hby d3_4) rfl 54 (by decide) (by decide) (by decide) (by decide) ?_
  refine Go.aloadN X1 hx (hb hby d3_54) rfl rfl rfl ?_
  refine Go.getS X1 hx hZ hown (host := "") (Or.inl (wd 33 rfl)) Via.refl e1 (S_OPEN.ext O0.2) (hb hby d3_55) rfl ?_
  intro T2 X2 e2
  refine Go.acmp X2 hx (hb hby d3_58) rfl rfl rfl false (decide_eq_false fun q => (Ne.symm ne_OPEN_CANCELLING) (Value.ref.inj q)) 65 (by decide) (by decide) ?_
  refine Go.iconst X2 hx (hb hby d3_65) rfl (0 : Int32) rfl ?_
  refine Go.goto X2 hx (hb hby d3_66) rfl 118 (by decide) (by decide) ?_
  exact Go.retZ X2 hx (z' := (0 : Int32)) hret hlk (hb hby d3_118) rfl (by decide) ⟨rfl, rfl, e2⟩ (Nat.le_of_ble_eq_true rfl) (Nat.le_of_ble_eq_true rfl)
set_option maxRecDepth 65536 in
set_option maxHeartbeats 40000000 in
theorem sp3_17 (l : Launch) (Z : State) (a0 : Array Value) (hw : ∀ d ∈ tables_1, d.before a0 Z = true) (a_OPEN : Addr) (a_CLOSED : Addr) (a_CANCELLED : Addr) (a_CLOSING : Addr) (a_CANCELLING : Addr)  (h0 : Heap) (O0 : Old Z Z.heap.size h0) (FF : Facts Z a_OPEN a_CLOSED a_CANCELLED a_CLOSING a_CANCELLING) : Pur l Z (⟨"com/example/nursery/nursery/NurseryState", "canMoveTo", "(Lcom/example/nursery/nursery/NurseryState;)Z"⟩ : MethodName) prog_5_method_7_code 2 (some .boolean) 1 12 #[(.ref a_CANCELLING), (.ref a_CANCELLING)] h0 (some (.int (0 : Int32))) := by
  refine Ctr.of (plainFor_of_name pn_2) ?_
  have wd : ∀ {d : Jvm.Cond} (i : Nat), tables_1[i]? = some d → d.before a0 Z = true := fun i q => hw _ (List.mem_of_getElem? q)
  intro p e s m below meth c s₁ hx hby hml hown hnm hret hlk hZ X0 e0
  have FF' := FF
  obtain ⟨S_OPEN, E_OPEN, S_CLOSED, E_CLOSED, F_OPEN_ordinal, F_CLOSED_ordinal, S_CANCELLED, E_CANCELLED, F_CANCELLED_ordinal, S_CLOSING, E_CLOSING, F_CLOSING_ordinal, S_CANCELLING, E_CANCELLING, F_CANCELLING_ordinal, ne_OPEN_CLOSING, ne_OPEN_CANCELLING, ne_OPEN_CLOSED, ne_OPEN_CANCELLED, ne_CLOSING_CANCELLING, ne_CLOSING_CLOSED, ne_CLOSING_CANCELLED, ne_CANCELLING_CLOSED, ne_CANCELLING_CANCELLED, ne_CLOSED_CANCELLED⟩ := FF'
  refine Go.cast (ef_3 m a_CANCELLING a_CANCELLING) ?_
  show Go p e below _ s₁ (mkF m 0 #[.val (.ref a_CANCELLING), .val (.ref a_CANCELLING)] [])
  refine Go.aloadN X0 hx (hb hby d3_0) rfl rfl rfl ?_
  refine Go.pureU X0 hx hZ (ow := "java/lang/Enum") hown (wd 22 rfl) (wd 23 rfl) (wd 24 rfl) (wd 26 rfl) (wd 25 rfl) (wd 27 rfl) (wd 28 rfl) (by decide) [] [] (E_CANCELLING.ext O0.2) (sp4_12 l Z a0 hw a_OPEN a_CLOSED a_CANCELLED a_CLOSING a_CANCELLING  h0 O0 FF) e0 rfl (by rw [hml]; rfl) pd_2 rfl (hb hby d3_1) (Nat.le_of_ble_eq_true rfl) (Nat.le_of_ble_eq_true rfl) (Nat.le_of_ble_eq_true rfl) (Nat.le_of_ble_eq_true rfl) ?_
  intro T1 X1 e1
  refine Go.tswIn X1 hx (o := 65) (hb hby d3_4) rfl 69 (by decide) (by decide) (by decide) (by decide) ?_
  refine Go.aloadN X1 hx (hb hby d3_69) rfl rfl rfl ?_
  refine Go.getS X1 hx hZ hown (host := "") (Or.inl (wd 33 rfl)) Via.refl e1 (S_OPEN.ext O0.2) (hb hby d3_70) rfl ?_
  intro T2 X2 e2
  refine Go.acmp X2 hx (hb hby d3_73) rfl rfl rfl false (decide_eq_false fun q => (Ne.symm ne_OPEN_CANCELLING) (Value.ref.inj q)) 76 (by decide) (by decide) ?_
  refine Go.aloadN X2 hx (hb hby d3_76) rfl rfl rfl ?_
  refine Go.getS X2 hx hZ hown (host := "") (Or.inl (wd 37 rfl)) Via.refl e2 (S_CLOSING.ext O0.2) (hb hby d3_77) rfl ?_
  intro T3 X3 e3
  refine Go.acmp X3 hx (hb hby d3_80) rfl rfl rfl false (decide_eq_false fun q => (Ne.symm ne_CLOSING_CANCELLING) (Value.ref.inj q)) 87 (by decide) (by decide) ?_
  refine Go.iconst X3 hx (hb hby d3_87) rfl (0 : Int32) rfl ?_
  refine Go.goto X3 hx (hb hby d3_88) rfl 118 (by decide) (by decide) ?_
  exact Go.retZ X3 hx (z' := (0 : Int32)) hret hlk (hb hby d3_118) rfl (by decide) ⟨rfl, rfl, e3⟩ (Nat.le_of_ble_eq_true rfl) (Nat.le_of_ble_eq_true rfl)
set_option maxRecDepth 65536 in
set_option maxHeartbeats 40000000 in
theorem sp4_19 (l : Launch) (Z : State) (a0 : Array Value) (hw : ∀ d ∈ tables_1, d.before a0 Z = true) (a_OPEN : Addr) (a_CLOSED : Addr) (a_CANCELLED : Addr) (a_CLOSING : Addr) (a_CANCELLING : Addr)  (h0 : Heap) (O0 : Old Z Z.heap.size h0) (FF : Facts Z a_OPEN a_CLOSED a_CANCELLED a_CLOSING a_CANCELLING) : Pur l Z (⟨"java/lang/Enum", "ordinal", "()I"⟩ : MethodName) jdk_37_method_2_code 1 (some .int) 0 0 #[(.ref a_CLOSED)] h0 (some (.int (3 : Int32))) := by
  refine Ctr.of (plainFor_of_name pn_4) ?_
  have wd : ∀ {d : Jvm.Cond} (i : Nat), tables_1[i]? = some d → d.before a0 Z = true := fun i q => hw _ (List.mem_of_getElem? q)
  intro p e s m below meth c s₁ hx hby hml hown hnm hret hlk hZ X0 e0
  have FF' := FF
  obtain ⟨S_OPEN, E_OPEN, S_CLOSED, E_CLOSED, F_OPEN_ordinal, F_CLOSED_ordinal, S_CANCELLED, E_CANCELLED, F_CANCELLED_ordinal, S_CLOSING, E_CLOSING, F_CLOSING_ordinal, S_CANCELLING, E_CANCELLING, F_CANCELLING_ordinal, ne_OPEN_CLOSING, ne_OPEN_CANCELLING, ne_OPEN_CLOSED, ne_OPEN_CANCELLED, ne_CLOSING_CANCELLING, ne_CLOSING_CLOSED, ne_CLOSING_CANCELLED, ne_CANCELLING_CLOSED, ne_CANCELLING_CANCELLED, ne_CLOSED_CANCELLED⟩ := FF'
  refine Go.cast (ef_4 m a_CLOSED) ?_
  show Go p e below _ s₁ (mkF m 0 #[.val (.ref a_CLOSED)] [])
  refine Go.aloadN X0 hx (hb hby d4_0) rfl rfl rfl ?_
  refine Go.getF X0 hx hZ hown (host := "") (Or.inl (wd 29 rfl)) Via.refl e0 (F_CLOSED_ordinal.ext O0.2) (hb hby d4_1) rfl ?_
  intro T1 X1 e1
  exact Go.retI X1 hx hret hlk (hb hby d4_4) rfl ⟨rfl, rfl, e1⟩ (Nat.le_of_ble_eq_true rfl) (Nat.le_of_ble_eq_true rfl)
set_option maxRecDepth 65536 in
set_option maxHeartbeats 40000000 in
theorem sp3_18 (l : Launch) (Z : State) (a0 : Array Value) (hw : ∀ d ∈ tables_1, d.before a0 Z = true) (a_OPEN : Addr) (a_CLOSED : Addr) (a_CANCELLED : Addr) (a_CLOSING : Addr) (a_CANCELLING : Addr)  (h0 : Heap) (O0 : Old Z Z.heap.size h0) (FF : Facts Z a_OPEN a_CLOSED a_CANCELLED a_CLOSING a_CANCELLING) : Pur l Z (⟨"com/example/nursery/nursery/NurseryState", "canMoveTo", "(Lcom/example/nursery/nursery/NurseryState;)Z"⟩ : MethodName) prog_5_method_7_code 2 (some .boolean) 1 12 #[(.ref a_CANCELLING), (.ref a_CLOSED)] h0 (some (.int (0 : Int32))) := by
  refine Ctr.of (plainFor_of_name pn_2) ?_
  have wd : ∀ {d : Jvm.Cond} (i : Nat), tables_1[i]? = some d → d.before a0 Z = true := fun i q => hw _ (List.mem_of_getElem? q)
  intro p e s m below meth c s₁ hx hby hml hown hnm hret hlk hZ X0 e0
  have FF' := FF
  obtain ⟨S_OPEN, E_OPEN, S_CLOSED, E_CLOSED, F_OPEN_ordinal, F_CLOSED_ordinal, S_CANCELLED, E_CANCELLED, F_CANCELLED_ordinal, S_CLOSING, E_CLOSING, F_CLOSING_ordinal, S_CANCELLING, E_CANCELLING, F_CANCELLING_ordinal, ne_OPEN_CLOSING, ne_OPEN_CANCELLING, ne_OPEN_CLOSED, ne_OPEN_CANCELLED, ne_CLOSING_CANCELLING, ne_CLOSING_CLOSED, ne_CLOSING_CANCELLED, ne_CANCELLING_CLOSED, ne_CANCELLING_CANCELLED, ne_CLOSED_CANCELLED⟩ := FF'
  refine Go.cast (ef_3 m a_CANCELLING a_CLOSED) ?_
  show Go p e below _ s₁ (mkF m 0 #[.val (.ref a_CANCELLING), .val (.ref a_CLOSED)] [])
  refine Go.aloadN X0 hx (hb hby d3_0) rfl rfl rfl ?_
  refine Go.pureU X0 hx hZ (ow := "java/lang/Enum") hown (wd 22 rfl) (wd 23 rfl) (wd 24 rfl) (wd 26 rfl) (wd 25 rfl) (wd 27 rfl) (wd 28 rfl) (by decide) [] [] (E_CLOSED.ext O0.2) (sp4_19 l Z a0 hw a_OPEN a_CLOSED a_CANCELLED a_CLOSING a_CANCELLING  h0 O0 FF) e0 rfl (by rw [hml]; rfl) pd_2 rfl (hb hby d3_1) (Nat.le_of_ble_eq_true rfl) (Nat.le_of_ble_eq_true rfl) (Nat.le_of_ble_eq_true rfl) (Nat.le_of_ble_eq_true rfl) ?_
  intro T1 X1 e1
  refine Go.tswIn X1 hx (o := 87) (hb hby d3_4) rfl 91 (by decide) (by decide) (by decide) (by decide) ?_
  refine Go.aloadN X1 hx (hb hby d3_91) rfl rfl rfl ?_
  refine Go.getS X1 hx hZ hown (host := "") (Or.inl (wd 37 rfl)) Via.refl e1 (S_CLOSING.ext O0.2) (hb hby d3_92) rfl ?_
  intro T2 X2 e2
  refine Go.acmp X2 hx (hb hby d3_95) rfl rfl rfl false (decide_eq_false fun q => (Ne.symm ne_CLOSING_CANCELLING) (Value.ref.inj q)) 102 (by decide) (by decide) ?_
  refine Go.iconst X2 hx (hb hby d3_102) rfl (0 : Int32) rfl ?_
  refine Go.goto X2 hx (hb hby d3_103) rfl 118 (by decide) (by decide) ?_
  exact Go.retZ X2 hx (z' := (0 : Int32)) hret hlk (hb hby d3_118) rfl (by decide) ⟨rfl, rfl, e2⟩ (Nat.le_of_ble_eq_true rfl) (Nat.le_of_ble_eq_true rfl)
set_option maxRecDepth 65536 in
set_option maxHeartbeats 40000000 in
theorem sp4_21 (l : Launch) (Z : State) (a0 : Array Value) (hw : ∀ d ∈ tables_1, d.before a0 Z = true) (a_OPEN : Addr) (a_CLOSED : Addr) (a_CANCELLED : Addr) (a_CLOSING : Addr) (a_CANCELLING : Addr)  (h0 : Heap) (O0 : Old Z Z.heap.size h0) (FF : Facts Z a_OPEN a_CLOSED a_CANCELLED a_CLOSING a_CANCELLING) : Pur l Z (⟨"java/lang/Enum", "ordinal", "()I"⟩ : MethodName) jdk_37_method_2_code 1 (some .int) 0 0 #[(.ref a_CANCELLED)] h0 (some (.int (4 : Int32))) := by
  refine Ctr.of (plainFor_of_name pn_4) ?_
  have wd : ∀ {d : Jvm.Cond} (i : Nat), tables_1[i]? = some d → d.before a0 Z = true := fun i q => hw _ (List.mem_of_getElem? q)
  intro p e s m below meth c s₁ hx hby hml hown hnm hret hlk hZ X0 e0
  have FF' := FF
  obtain ⟨S_OPEN, E_OPEN, S_CLOSED, E_CLOSED, F_OPEN_ordinal, F_CLOSED_ordinal, S_CANCELLED, E_CANCELLED, F_CANCELLED_ordinal, S_CLOSING, E_CLOSING, F_CLOSING_ordinal, S_CANCELLING, E_CANCELLING, F_CANCELLING_ordinal, ne_OPEN_CLOSING, ne_OPEN_CANCELLING, ne_OPEN_CLOSED, ne_OPEN_CANCELLED, ne_CLOSING_CANCELLING, ne_CLOSING_CLOSED, ne_CLOSING_CANCELLED, ne_CANCELLING_CLOSED, ne_CANCELLING_CANCELLED, ne_CLOSED_CANCELLED⟩ := FF'
  refine Go.cast (ef_4 m a_CANCELLED) ?_
  show Go p e below _ s₁ (mkF m 0 #[.val (.ref a_CANCELLED)] [])
  refine Go.aloadN X0 hx (hb hby d4_0) rfl rfl rfl ?_
  refine Go.getF X0 hx hZ hown (host := "") (Or.inl (wd 29 rfl)) Via.refl e0 (F_CANCELLED_ordinal.ext O0.2) (hb hby d4_1) rfl ?_
  intro T1 X1 e1
  exact Go.retI X1 hx hret hlk (hb hby d4_4) rfl ⟨rfl, rfl, e1⟩ (Nat.le_of_ble_eq_true rfl) (Nat.le_of_ble_eq_true rfl)
set_option maxRecDepth 65536 in
set_option maxHeartbeats 40000000 in
theorem sp3_20 (l : Launch) (Z : State) (a0 : Array Value) (hw : ∀ d ∈ tables_1, d.before a0 Z = true) (a_OPEN : Addr) (a_CLOSED : Addr) (a_CANCELLED : Addr) (a_CLOSING : Addr) (a_CANCELLING : Addr)  (h0 : Heap) (O0 : Old Z Z.heap.size h0) (FF : Facts Z a_OPEN a_CLOSED a_CANCELLED a_CLOSING a_CANCELLING) : Pur l Z (⟨"com/example/nursery/nursery/NurseryState", "canMoveTo", "(Lcom/example/nursery/nursery/NurseryState;)Z"⟩ : MethodName) prog_5_method_7_code 2 (some .boolean) 1 12 #[(.ref a_CANCELLING), (.ref a_CANCELLED)] h0 (some (.int (1 : Int32))) := by
  refine Ctr.of (plainFor_of_name pn_2) ?_
  have wd : ∀ {d : Jvm.Cond} (i : Nat), tables_1[i]? = some d → d.before a0 Z = true := fun i q => hw _ (List.mem_of_getElem? q)
  intro p e s m below meth c s₁ hx hby hml hown hnm hret hlk hZ X0 e0
  have FF' := FF
  obtain ⟨S_OPEN, E_OPEN, S_CLOSED, E_CLOSED, F_OPEN_ordinal, F_CLOSED_ordinal, S_CANCELLED, E_CANCELLED, F_CANCELLED_ordinal, S_CLOSING, E_CLOSING, F_CLOSING_ordinal, S_CANCELLING, E_CANCELLING, F_CANCELLING_ordinal, ne_OPEN_CLOSING, ne_OPEN_CANCELLING, ne_OPEN_CLOSED, ne_OPEN_CANCELLED, ne_CLOSING_CANCELLING, ne_CLOSING_CLOSED, ne_CLOSING_CANCELLED, ne_CANCELLING_CLOSED, ne_CANCELLING_CANCELLED, ne_CLOSED_CANCELLED⟩ := FF'
  refine Go.cast (ef_3 m a_CANCELLING a_CANCELLED) ?_
  show Go p e below _ s₁ (mkF m 0 #[.val (.ref a_CANCELLING), .val (.ref a_CANCELLED)] [])
  refine Go.aloadN X0 hx (hb hby d3_0) rfl rfl rfl ?_
  refine Go.pureU X0 hx hZ (ow := "java/lang/Enum") hown (wd 22 rfl) (wd 23 rfl) (wd 24 rfl) (wd 26 rfl) (wd 25 rfl) (wd 27 rfl) (wd 28 rfl) (by decide) [] [] (E_CANCELLED.ext O0.2) (sp4_21 l Z a0 hw a_OPEN a_CLOSED a_CANCELLED a_CLOSING a_CANCELLING  h0 O0 FF) e0 rfl (by rw [hml]; rfl) pd_2 rfl (hb hby d3_1) (Nat.le_of_ble_eq_true rfl) (Nat.le_of_ble_eq_true rfl) (Nat.le_of_ble_eq_true rfl) (Nat.le_of_ble_eq_true rfl) ?_
  intro T1 X1 e1
  refine Go.tswIn X1 hx (o := 102) (hb hby d3_4) rfl 106 (by decide) (by decide) (by decide) (by decide) ?_
  refine Go.aloadN X1 hx (hb hby d3_106) rfl rfl rfl ?_
  refine Go.getS X1 hx hZ hown (host := "") (Or.inl (wd 39 rfl)) Via.refl e1 (S_CANCELLING.ext O0.2) (hb hby d3_107) rfl ?_
  intro T2 X2 e2
  refine Go.acmp X2 hx (hb hby d3_110) rfl rfl rfl true (decide_eq_true rfl) 113 (by decide) (by decide) ?_
  refine Go.iconst X2 hx (hb hby d3_113) rfl (1 : Int32) rfl ?_
  refine Go.goto X2 hx (hb hby d3_114) rfl 118 (by decide) (by decide) ?_
  exact Go.retZ X2 hx (z' := (1 : Int32)) hret hlk (hb hby d3_118) rfl (by decide) ⟨rfl, rfl, e2⟩ (Nat.le_of_ble_eq_true rfl) (Nat.le_of_ble_eq_true rfl)
set_option maxRecDepth 65536 in
set_option maxHeartbeats 40000000 in
theorem sp1_22 (l : Launch) (Z : State) (a0 : Array Value) (hw : ∀ d ∈ tables_1, d.before a0 Z = true) (a_OPEN : Addr) (a_CLOSED : Addr) (a_CANCELLED : Addr) (a_CLOSING : Addr) (a_CANCELLING : Addr)  (h0 : Heap) (O0 : Old Z Z.heap.size h0) (FF : Facts Z a_OPEN a_CLOSED a_CANCELLED a_CLOSING a_CANCELLING) : Pur l Z (⟨"com/example/nursery/nursery/NurseryStateIsTerminalPinLaw", "pick", "(I)Lcom/example/nursery/nursery/NurseryState;"⟩ : MethodName) method_3_code 1 (some (.object "com/example/nursery/nursery/NurseryState")) 0 0 #[(.int (3 : Int32))] h0 (some (.ref a_CLOSED)) := by
  refine Ctr.of (plainFor_of_name pn_0) ?_
  have wd : ∀ {d : Jvm.Cond} (i : Nat), tables_1[i]? = some d → d.before a0 Z = true := fun i q => hw _ (List.mem_of_getElem? q)
  intro p e s m below meth c s₁ hx hby hml hown hnm hret hlk hZ X0 e0
  have FF' := FF
  obtain ⟨S_OPEN, E_OPEN, S_CLOSED, E_CLOSED, F_OPEN_ordinal, F_CLOSED_ordinal, S_CANCELLED, E_CANCELLED, F_CANCELLED_ordinal, S_CLOSING, E_CLOSING, F_CLOSING_ordinal, S_CANCELLING, E_CANCELLING, F_CANCELLING_ordinal, ne_OPEN_CLOSING, ne_OPEN_CANCELLING, ne_OPEN_CLOSED, ne_OPEN_CANCELLED, ne_CLOSING_CANCELLING, ne_CLOSING_CLOSED, ne_CLOSING_CANCELLED, ne_CANCELLING_CLOSED, ne_CANCELLING_CANCELLED, ne_CLOSED_CANCELLED⟩ := FF'
  refine Go.cast (ef_1 m (3 : Int32)) ?_
  show Go p e below _ s₁ (mkF m 0 #[.val (.int (3 : Int32))] [])
  refine Go.iloadN X0 hx (hb hby d1_0) rfl rfl  ?_
  refine Go.ifYes X0 hx (hb hby d1_1) rfl 8 ((if0 _ _).trans (feq (by decide : ¬ ((3 : Int32) = (0 : Int32)))).2) (by decide) (by decide) ?_
  refine Go.iloadN X0 hx (hb hby d1_8) rfl rfl  ?_
  refine Go.iconst X0 hx (hb hby d1_9) rfl (1 : Int32) rfl ?_
  refine Go.icmpYes X0 hx (hb hby d1_10) rfl 17 (feq (by decide : ¬ ((3 : Int32) = (1 : Int32)))).2 (by decide) (by decide) ?_
  refine Go.iloadN X0 hx (hb hby d1_17) rfl rfl  ?_
  refine Go.iconst X0 hx (hb hby d1_18) rfl (2 : Int32) rfl ?_
  refine Go.icmpYes X0 hx (hb hby d1_19) rfl 26 (feq (by decide : ¬ ((3 : Int32) = (2 : Int32)))).2 (by decide) (by decide) ?_
  refine Go.iloadN X0 hx (hb hby d1_26) rfl rfl  ?_
  refine Go.iconst X0 hx (hb hby d1_27) rfl (3 : Int32) rfl ?_
  refine Go.icmpNo X0 hx (hb hby d1_28) rfl (teq (by decide : (3 : Int32) = (3 : Int32))).2 ?_
  refine Go.getS X0 hx hZ hown (host := "") (Or.inl (wd 34 rfl)) Via.refl e0 (S_CLOSED.ext O0.2) (hb hby d1_31) rfl ?_
  intro T1 X1 e1
  exact Go.retA X1 hx hret hlk rfl rfl (hb hby d1_34) rfl ⟨rfl, rfl, e1⟩ (Nat.le_of_ble_eq_true rfl) (Nat.le_of_ble_eq_true rfl)
set_option maxRecDepth 65536 in
set_option maxHeartbeats 40000000 in
theorem sp2_23 (l : Launch) (Z : State) (a0 : Array Value) (hw : ∀ d ∈ tables_1, d.before a0 Z = true) (a_OPEN : Addr) (a_CLOSED : Addr) (a_CANCELLED : Addr) (a_CLOSING : Addr) (a_CANCELLING : Addr)  (h0 : Heap) (O0 : Old Z Z.heap.size h0) (FF : Facts Z a_OPEN a_CLOSED a_CANCELLED a_CLOSING a_CANCELLING) : Pur l Z (⟨"com/example/nursery/nursery/NurseryState", "isTerminal", "()Z"⟩ : MethodName) prog_5_method_6_code 1 (some .boolean) 0 0 #[(.ref a_CLOSED)] h0 (some (.int (1 : Int32))) := by
  refine Ctr.of (plainFor_of_name pn_2) ?_
  have wd : ∀ {d : Jvm.Cond} (i : Nat), tables_1[i]? = some d → d.before a0 Z = true := fun i q => hw _ (List.mem_of_getElem? q)
  intro p e s m below meth c s₁ hx hby hml hown hnm hret hlk hZ X0 e0
  have FF' := FF
  obtain ⟨S_OPEN, E_OPEN, S_CLOSED, E_CLOSED, F_OPEN_ordinal, F_CLOSED_ordinal, S_CANCELLED, E_CANCELLED, F_CANCELLED_ordinal, S_CLOSING, E_CLOSING, F_CLOSING_ordinal, S_CANCELLING, E_CANCELLING, F_CANCELLING_ordinal, ne_OPEN_CLOSING, ne_OPEN_CANCELLING, ne_OPEN_CLOSED, ne_OPEN_CANCELLED, ne_CLOSING_CANCELLING, ne_CLOSING_CLOSED, ne_CLOSING_CANCELLED, ne_CANCELLING_CLOSED, ne_CANCELLING_CANCELLED, ne_CLOSED_CANCELLED⟩ := FF'
  refine Go.cast (ef_2 m a_CLOSED) ?_
  show Go p e below _ s₁ (mkF m 0 #[.val (.ref a_CLOSED)] [])
  refine Go.aloadN X0 hx (hb hby d2_0) rfl rfl rfl ?_
  refine Go.getS X0 hx hZ hown (host := "") (Or.inl (wd 13 rfl)) Via.refl e0 (S_CLOSED.ext O0.2) (hb hby d2_1) rfl ?_
  intro T1 X1 e1
  refine Go.acmp X1 hx (hb hby d2_4) rfl rfl rfl true (decide_eq_true rfl) 14 (by decide) (by decide) ?_
  refine Go.iconst X1 hx (hb hby d2_14) rfl (1 : Int32) rfl ?_
  refine Go.goto X1 hx (hb hby d2_15) rfl 19 (by decide) (by decide) ?_
  exact Go.retZ X1 hx (z' := (1 : Int32)) hret hlk (hb hby d2_19) rfl (by decide) ⟨rfl, rfl, e1⟩ (Nat.le_of_ble_eq_true rfl) (Nat.le_of_ble_eq_true rfl)
set_option maxRecDepth 65536 in
set_option maxHeartbeats 40000000 in
theorem sp3_24 (l : Launch) (Z : State) (a0 : Array Value) (hw : ∀ d ∈ tables_1, d.before a0 Z = true) (a_OPEN : Addr) (a_CLOSED : Addr) (a_CANCELLED : Addr) (a_CLOSING : Addr) (a_CANCELLING : Addr)  (h0 : Heap) (O0 : Old Z Z.heap.size h0) (FF : Facts Z a_OPEN a_CLOSED a_CANCELLED a_CLOSING a_CANCELLING) : Pur l Z (⟨"com/example/nursery/nursery/NurseryState", "canMoveTo", "(Lcom/example/nursery/nursery/NurseryState;)Z"⟩ : MethodName) prog_5_method_7_code 2 (some .boolean) 1 12 #[(.ref a_CLOSED), (.ref a_OPEN)] h0 (some (.int (0 : Int32))) := by
  refine Ctr.of (plainFor_of_name pn_2) ?_
  have wd : ∀ {d : Jvm.Cond} (i : Nat), tables_1[i]? = some d → d.before a0 Z = true := fun i q => hw _ (List.mem_of_getElem? q)
  intro p e s m below meth c s₁ hx hby hml hown hnm hret hlk hZ X0 e0
  have FF' := FF
  obtain ⟨S_OPEN, E_OPEN, S_CLOSED, E_CLOSED, F_OPEN_ordinal, F_CLOSED_ordinal, S_CANCELLED, E_CANCELLED, F_CANCELLED_ordinal, S_CLOSING, E_CLOSING, F_CLOSING_ordinal, S_CANCELLING, E_CANCELLING, F_CANCELLING_ordinal, ne_OPEN_CLOSING, ne_OPEN_CANCELLING, ne_OPEN_CLOSED, ne_OPEN_CANCELLED, ne_CLOSING_CANCELLING, ne_CLOSING_CLOSED, ne_CLOSING_CANCELLED, ne_CANCELLING_CLOSED, ne_CANCELLING_CANCELLED, ne_CLOSED_CANCELLED⟩ := FF'
  refine Go.cast (ef_3 m a_CLOSED a_OPEN) ?_
  show Go p e below _ s₁ (mkF m 0 #[.val (.ref a_CLOSED), .val (.ref a_OPEN)] [])
  refine Go.aloadN X0 hx (hb hby d3_0) rfl rfl rfl ?_
  refine Go.pureU X0 hx hZ (ow := "java/lang/Enum") hown (wd 22 rfl) (wd 23 rfl) (wd 24 rfl) (wd 26 rfl) (wd 25 rfl) (wd 27 rfl) (wd 28 rfl) (by decide) [] [] (E_OPEN.ext O0.2) (sp4_4 l Z a0 hw a_OPEN a_CLOSED a_CANCELLED a_CLOSING a_CANCELLING  h0 O0 FF) e0 rfl (by rw [hml]; rfl) pd_2 rfl (hb hby d3_1) (Nat.le_of_ble_eq_true rfl) (Nat.le_of_ble_eq_true rfl) (Nat.le_of_ble_eq_true rfl) (Nat.le_of_ble_eq_true rfl) ?_
  intro T1 X1 e1
  refine Go.tswIn X1 hx (o := 46) (hb hby d3_4) rfl 50 (by decide) (by decide) (by decide) (by decide) ?_
  refine Go.iconst X1 hx (hb hby d3_50) rfl (0 : Int32) rfl ?_
  refine Go.goto X1 hx (hb hby d3_51) rfl 118 (by decide) (by decide) ?_
  exact Go.retZ X1 hx (z' := (0 : Int32)) hret hlk (hb hby d3_118) rfl (by decide) ⟨rfl, rfl, e1⟩ (Nat.le_of_ble_eq_true rfl) (Nat.le_of_ble_eq_true rfl)
set_option maxRecDepth 65536 in
set_option maxHeartbeats 40000000 in
theorem sp3_25 (l : Launch) (Z : State) (a0 : Array Value) (hw : ∀ d ∈ tables_1, d.before a0 Z = true) (a_OPEN : Addr) (a_CLOSED : Addr) (a_CANCELLED : Addr) (a_CLOSING : Addr) (a_CANCELLING : Addr)  (h0 : Heap) (O0 : Old Z Z.heap.size h0) (FF : Facts Z a_OPEN a_CLOSED a_CANCELLED a_CLOSING a_CANCELLING) : Pur l Z (⟨"com/example/nursery/nursery/NurseryState", "canMoveTo", "(Lcom/example/nursery/nursery/NurseryState;)Z"⟩ : MethodName) prog_5_method_7_code 2 (some .boolean) 1 12 #[(.ref a_CLOSED), (.ref a_CLOSING)] h0 (some (.int (0 : Int32))) := by
  refine Ctr.of (plainFor_of_name pn_2) ?_
  have wd : ∀ {d : Jvm.Cond} (i : Nat), tables_1[i]? = some d → d.before a0 Z = true := fun i q => hw _ (List.mem_of_getElem? q)
  intro p e s m below meth c s₁ hx hby hml hown hnm hret hlk hZ X0 e0
  have FF' := FF
  obtain ⟨S_OPEN, E_OPEN, S_CLOSED, E_CLOSED, F_OPEN_ordinal, F_CLOSED_ordinal, S_CANCELLED, E_CANCELLED, F_CANCELLED_ordinal, S_CLOSING, E_CLOSING, F_CLOSING_ordinal, S_CANCELLING, E_CANCELLING, F_CANCELLING_ordinal, ne_OPEN_CLOSING, ne_OPEN_CANCELLING, ne_OPEN_CLOSED, ne_OPEN_CANCELLED, ne_CLOSING_CANCELLING, ne_CLOSING_CLOSED, ne_CLOSING_CANCELLED, ne_CANCELLING_CLOSED, ne_CANCELLING_CANCELLED, ne_CLOSED_CANCELLED⟩ := FF'
  refine Go.cast (ef_3 m a_CLOSED a_CLOSING) ?_
  show Go p e below _ s₁ (mkF m 0 #[.val (.ref a_CLOSED), .val (.ref a_CLOSING)] [])
  refine Go.aloadN X0 hx (hb hby d3_0) rfl rfl rfl ?_
  refine Go.pureU X0 hx hZ (ow := "java/lang/Enum") hown (wd 22 rfl) (wd 23 rfl) (wd 24 rfl) (wd 26 rfl) (wd 25 rfl) (wd 27 rfl) (wd 28 rfl) (by decide) [] [] (E_CLOSING.ext O0.2) (sp4_6 l Z a0 hw a_OPEN a_CLOSED a_CANCELLED a_CLOSING a_CANCELLING  h0 O0 FF) e0 rfl (by rw [hml]; rfl) pd_2 rfl (hb hby d3_1) (Nat.le_of_ble_eq_true rfl) (Nat.le_of_ble_eq_true rfl) (Nat.le_of_ble_eq_true rfl) (Nat.le_of_ble_eq_true rfl) ?_
  intro T1 X1 e1
  refine Go.tswIn X1 hx (o := 50) (hb hby d3_4) rfl 54 (by decide) (by decide) (by decide) (by decide) ?_
  refine Go.aloadN X1 hx (hb hby d3_54) rfl rfl rfl ?_
  refine Go.getS X1 hx hZ hown (host := "") (Or.inl (wd 33 rfl)) Via.refl e1 (S_OPEN.ext O0.2) (hb hby d3_55) rfl ?_
  intro T2 X2 e2
  refine Go.acmp X2 hx (hb hby d3_58) rfl rfl rfl false (decide_eq_false fun q => (Ne.symm ne_OPEN_CLOSED) (Value.ref.inj q)) 65 (by decide) (by decide) ?_
  refine Go.iconst X2 hx (hb hby d3_65) rfl (0 : Int32) rfl ?_
  refine Go.goto X2 hx (hb hby d3_66) rfl 118 (by decide) (by decide) ?_
  exact Go.retZ X2 hx (z' := (0 : Int32)) hret hlk (hb hby d3_118) rfl (by decide) ⟨rfl, rfl, e2⟩ (Nat.le_of_ble_eq_true rfl) (Nat.le_of_ble_eq_true rfl)
set_option maxRecDepth 65536 in
set_option maxHeartbeats 40000000 in
theorem sp3_26 (l : Launch) (Z : State) (a0 : Array Value) (hw : ∀ d ∈ tables_1, d.before a0 Z = true) (a_OPEN : Addr) (a_CLOSED : Addr) (a_CANCELLED : Addr) (a_CLOSING : Addr) (a_CANCELLING : Addr)  (h0 : Heap) (O0 : Old Z Z.heap.size h0) (FF : Facts Z a_OPEN a_CLOSED a_CANCELLED a_CLOSING a_CANCELLING) : Pur l Z (⟨"com/example/nursery/nursery/NurseryState", "canMoveTo", "(Lcom/example/nursery/nursery/NurseryState;)Z"⟩ : MethodName) prog_5_method_7_code 2 (some .boolean) 1 12 #[(.ref a_CLOSED), (.ref a_CANCELLING)] h0 (some (.int (0 : Int32))) := by
  refine Ctr.of (plainFor_of_name pn_2) ?_
  have wd : ∀ {d : Jvm.Cond} (i : Nat), tables_1[i]? = some d → d.before a0 Z = true := fun i q => hw _ (List.mem_of_getElem? q)
  intro p e s m below meth c s₁ hx hby hml hown hnm hret hlk hZ X0 e0
  have FF' := FF
  obtain ⟨S_OPEN, E_OPEN, S_CLOSED, E_CLOSED, F_OPEN_ordinal, F_CLOSED_ordinal, S_CANCELLED, E_CANCELLED, F_CANCELLED_ordinal, S_CLOSING, E_CLOSING, F_CLOSING_ordinal, S_CANCELLING, E_CANCELLING, F_CANCELLING_ordinal, ne_OPEN_CLOSING, ne_OPEN_CANCELLING, ne_OPEN_CLOSED, ne_OPEN_CANCELLED, ne_CLOSING_CANCELLING, ne_CLOSING_CLOSED, ne_CLOSING_CANCELLED, ne_CANCELLING_CLOSED, ne_CANCELLING_CANCELLED, ne_CLOSED_CANCELLED⟩ := FF'
  refine Go.cast (ef_3 m a_CLOSED a_CANCELLING) ?_
  show Go p e below _ s₁ (mkF m 0 #[.val (.ref a_CLOSED), .val (.ref a_CANCELLING)] [])
  refine Go.aloadN X0 hx (hb hby d3_0) rfl rfl rfl ?_
  refine Go.pureU X0 hx hZ (ow := "java/lang/Enum") hown (wd 22 rfl) (wd 23 rfl) (wd 24 rfl) (wd 26 rfl) (wd 25 rfl) (wd 27 rfl) (wd 28 rfl) (by decide) [] [] (E_CANCELLING.ext O0.2) (sp4_12 l Z a0 hw a_OPEN a_CLOSED a_CANCELLED a_CLOSING a_CANCELLING  h0 O0 FF) e0 rfl (by rw [hml]; rfl) pd_2 rfl (hb hby d3_1) (Nat.le_of_ble_eq_true rfl) (Nat.le_of_ble_eq_true rfl) (Nat.le_of_ble_eq_true rfl) (Nat.le_of_ble_eq_true rfl) ?_
  intro T1 X1 e1
  refine Go.tswIn X1 hx (o := 65) (hb hby d3_4) rfl 69 (by decide) (by decide) (by decide) (by decide) ?_
  refine Go.aloadN X1 hx (hb hby d3_69) rfl rfl rfl ?_
  refine Go.getS X1 hx hZ hown (host := "") (Or.inl (wd 33 rfl)) Via.refl e1 (S_OPEN.ext O0.2) (hb hby d3_70) rfl ?_
  intro T2 X2 e2
  refine Go.acmp X2 hx (hb hby d3_73) rfl rfl rfl false (decide_eq_false fun q => (Ne.symm ne_OPEN_CLOSED) (Value.ref.inj q)) 76 (by decide) (by decide) ?_
  refine Go.aloadN X2 hx (hb hby d3_76) rfl rfl rfl ?_
  refine Go.getS X2 hx hZ hown (host := "") (Or.inl (wd 37 rfl)) Via.refl e2 (S_CLOSING.ext O0.2) (hb hby d3_77) rfl ?_
  intro T3 X3 e3
  refine Go.acmp X3 hx (hb hby d3_80) rfl rfl rfl false (decide_eq_false fun q => (Ne.symm ne_CLOSING_CLOSED) (Value.ref.inj q)) 87 (by decide) (by decide) ?_
  refine Go.iconst X3 hx (hb hby d3_87) rfl (0 : Int32) rfl ?_
  refine Go.goto X3 hx (hb hby d3_88) rfl 118 (by decide) (by decide) ?_
  exact Go.retZ X3 hx (z' := (0 : Int32)) hret hlk (hb hby d3_118) rfl (by decide) ⟨rfl, rfl, e3⟩ (Nat.le_of_ble_eq_true rfl) (Nat.le_of_ble_eq_true rfl)
set_option maxRecDepth 65536 in
set_option maxHeartbeats 40000000 in
theorem sp3_27 (l : Launch) (Z : State) (a0 : Array Value) (hw : ∀ d ∈ tables_1, d.before a0 Z = true) (a_OPEN : Addr) (a_CLOSED : Addr) (a_CANCELLED : Addr) (a_CLOSING : Addr) (a_CANCELLING : Addr)  (h0 : Heap) (O0 : Old Z Z.heap.size h0) (FF : Facts Z a_OPEN a_CLOSED a_CANCELLED a_CLOSING a_CANCELLING) : Pur l Z (⟨"com/example/nursery/nursery/NurseryState", "canMoveTo", "(Lcom/example/nursery/nursery/NurseryState;)Z"⟩ : MethodName) prog_5_method_7_code 2 (some .boolean) 1 12 #[(.ref a_CLOSED), (.ref a_CLOSED)] h0 (some (.int (0 : Int32))) := by
  refine Ctr.of (plainFor_of_name pn_2) ?_
  have wd : ∀ {d : Jvm.Cond} (i : Nat), tables_1[i]? = some d → d.before a0 Z = true := fun i q => hw _ (List.mem_of_getElem? q)
  intro p e s m below meth c s₁ hx hby hml hown hnm hret hlk hZ X0 e0
  have FF' := FF
  obtain ⟨S_OPEN, E_OPEN, S_CLOSED, E_CLOSED, F_OPEN_ordinal, F_CLOSED_ordinal, S_CANCELLED, E_CANCELLED, F_CANCELLED_ordinal, S_CLOSING, E_CLOSING, F_CLOSING_ordinal, S_CANCELLING, E_CANCELLING, F_CANCELLING_ordinal, ne_OPEN_CLOSING, ne_OPEN_CANCELLING, ne_OPEN_CLOSED, ne_OPEN_CANCELLED, ne_CLOSING_CANCELLING, ne_CLOSING_CLOSED, ne_CLOSING_CANCELLED, ne_CANCELLING_CLOSED, ne_CANCELLING_CANCELLED, ne_CLOSED_CANCELLED⟩ := FF'
  refine Go.cast (ef_3 m a_CLOSED a_CLOSED) ?_
  show Go p e below _ s₁ (mkF m 0 #[.val (.ref a_CLOSED), .val (.ref a_CLOSED)] [])
  refine Go.aloadN X0 hx (hb hby d3_0) rfl rfl rfl ?_
  refine Go.pureU X0 hx hZ (ow := "java/lang/Enum") hown (wd 22 rfl) (wd 23 rfl) (wd 24 rfl) (wd 26 rfl) (wd 25 rfl) (wd 27 rfl) (wd 28 rfl) (by decide) [] [] (E_CLOSED.ext O0.2) (sp4_19 l Z a0 hw a_OPEN a_CLOSED a_CANCELLED a_CLOSING a_CANCELLING  h0 O0 FF) e0 rfl (by rw [hml]; rfl) pd_2 rfl (hb hby d3_1) (Nat.le_of_ble_eq_true rfl) (Nat.le_of_ble_eq_true rfl) (Nat.le_of_ble_eq_true rfl) (Nat.le_of_ble_eq_true rfl) ?_
  intro T1 X1 e1
  refine Go.tswIn X1 hx (o := 87) (hb hby d3_4) rfl 91 (by decide) (by decide) (by decide) (by decide) ?_
  refine Go.aloadN X1 hx (hb hby d3_91) rfl rfl rfl ?_
  refine Go.getS X1 hx hZ hown (host := "") (Or.inl (wd 37 rfl)) Via.refl e1 (S_CLOSING.ext O0.2) (hb hby d3_92) rfl ?_
  intro T2 X2 e2
  refine Go.acmp X2 hx (hb hby d3_95) rfl rfl rfl false (decide_eq_false fun q => (Ne.symm ne_CLOSING_CLOSED) (Value.ref.inj q)) 102 (by decide) (by decide) ?_
  refine Go.iconst X2 hx (hb hby d3_102) rfl (0 : Int32) rfl ?_
  refine Go.goto X2 hx (hb hby d3_103) rfl 118 (by decide) (by decide) ?_
  exact Go.retZ X2 hx (z' := (0 : Int32)) hret hlk (hb hby d3_118) rfl (by decide) ⟨rfl, rfl, e2⟩ (Nat.le_of_ble_eq_true rfl) (Nat.le_of_ble_eq_true rfl)
set_option maxRecDepth 65536 in
set_option maxHeartbeats 40000000 in
theorem sp3_28 (l : Launch) (Z : State) (a0 : Array Value) (hw : ∀ d ∈ tables_1, d.before a0 Z = true) (a_OPEN : Addr) (a_CLOSED : Addr) (a_CANCELLED : Addr) (a_CLOSING : Addr) (a_CANCELLING : Addr)  (h0 : Heap) (O0 : Old Z Z.heap.size h0) (FF : Facts Z a_OPEN a_CLOSED a_CANCELLED a_CLOSING a_CANCELLING) : Pur l Z (⟨"com/example/nursery/nursery/NurseryState", "canMoveTo", "(Lcom/example/nursery/nursery/NurseryState;)Z"⟩ : MethodName) prog_5_method_7_code 2 (some .boolean) 1 12 #[(.ref a_CLOSED), (.ref a_CANCELLED)] h0 (some (.int (0 : Int32))) := by
  refine Ctr.of (plainFor_of_name pn_2) ?_
  have wd : ∀ {d : Jvm.Cond} (i : Nat), tables_1[i]? = some d → d.before a0 Z = true := fun i q => hw _ (List.mem_of_getElem? q)
  intro p e s m below meth c s₁ hx hby hml hown hnm hret hlk hZ X0 e0
  have FF' := FF
  obtain ⟨S_OPEN, E_OPEN, S_CLOSED, E_CLOSED, F_OPEN_ordinal, F_CLOSED_ordinal, S_CANCELLED, E_CANCELLED, F_CANCELLED_ordinal, S_CLOSING, E_CLOSING, F_CLOSING_ordinal, S_CANCELLING, E_CANCELLING, F_CANCELLING_ordinal, ne_OPEN_CLOSING, ne_OPEN_CANCELLING, ne_OPEN_CLOSED, ne_OPEN_CANCELLED, ne_CLOSING_CANCELLING, ne_CLOSING_CLOSED, ne_CLOSING_CANCELLED, ne_CANCELLING_CLOSED, ne_CANCELLING_CANCELLED, ne_CLOSED_CANCELLED⟩ := FF'
  refine Go.cast (ef_3 m a_CLOSED a_CANCELLED) ?_
  show Go p e below _ s₁ (mkF m 0 #[.val (.ref a_CLOSED), .val (.ref a_CANCELLED)] [])
  refine Go.aloadN X0 hx (hb hby d3_0) rfl rfl rfl ?_
  refine Go.pureU X0 hx hZ (ow := "java/lang/Enum") hown (wd 22 rfl) (wd 23 rfl) (wd 24 rfl) (wd 26 rfl) (wd 25 rfl) (wd 27 rfl) (wd 28 rfl) (by decide) [] [] (E_CANCELLED.ext O0.2) (sp4_21 l Z a0 hw a_OPEN a_CLOSED a_CANCELLED a_CLOSING a_CANCELLING  h0 O0 FF) e0 rfl (by rw [hml]; rfl) pd_2 rfl (hb hby d3_1) (Nat.le_of_ble_eq_true rfl) (Nat.le_of_ble_eq_true rfl) (Nat.le_of_ble_eq_true rfl) (Nat.le_of_ble_eq_true rfl) ?_
  intro T1 X1 e1
  refine Go.tswIn X1 hx (o := 102) (hb hby d3_4) rfl 106 (by decide) (by decide) (by decide) (by decide) ?_
  refine Go.aloadN X1 hx (hb hby d3_106) rfl rfl rfl ?_
  refine Go.getS X1 hx hZ hown (host := "") (Or.inl (wd 39 rfl)) Via.refl e1 (S_CANCELLING.ext O0.2) (hb hby d3_107) rfl ?_
  intro T2 X2 e2
  refine Go.acmp X2 hx (hb hby d3_110) rfl rfl rfl false (decide_eq_false fun q => (Ne.symm ne_CANCELLING_CLOSED) (Value.ref.inj q)) 117 (by decide) (by decide) ?_
  refine Go.iconst X2 hx (hb hby d3_117) rfl (0 : Int32) rfl ?_
  exact Go.retZ X2 hx (z' := (0 : Int32)) hret hlk (hb hby d3_118) rfl (by decide) ⟨rfl, rfl, e2⟩ (Nat.le_of_ble_eq_true rfl) (Nat.le_of_ble_eq_true rfl)
set_option maxRecDepth 65536 in
set_option maxHeartbeats 40000000 in
theorem sp1_29 (l : Launch) (Z : State) (a0 : Array Value) (hw : ∀ d ∈ tables_1, d.before a0 Z = true) (a_OPEN : Addr) (a_CLOSED : Addr) (a_CANCELLED : Addr) (a_CLOSING : Addr) (a_CANCELLING : Addr)  (h0 : Heap) (O0 : Old Z Z.heap.size h0) (FF : Facts Z a_OPEN a_CLOSED a_CANCELLED a_CLOSING a_CANCELLING) : Pur l Z (⟨"com/example/nursery/nursery/NurseryStateIsTerminalPinLaw", "pick", "(I)Lcom/example/nursery/nursery/NurseryState;"⟩ : MethodName) method_3_code 1 (some (.object "com/example/nursery/nursery/NurseryState")) 0 0 #[(.int (4 : Int32))] h0 (some (.ref a_CANCELLED)) := by
  refine Ctr.of (plainFor_of_name pn_0) ?_
  have wd : ∀ {d : Jvm.Cond} (i : Nat), tables_1[i]? = some d → d.before a0 Z = true := fun i q => hw _ (List.mem_of_getElem? q)
  intro p e s m below meth c s₁ hx hby hml hown hnm hret hlk hZ X0 e0
  have FF' := FF
  obtain ⟨S_OPEN, E_OPEN, S_CLOSED, E_CLOSED, F_OPEN_ordinal, F_CLOSED_ordinal, S_CANCELLED, E_CANCELLED, F_CANCELLED_ordinal, S_CLOSING, E_CLOSING, F_CLOSING_ordinal, S_CANCELLING, E_CANCELLING, F_CANCELLING_ordinal, ne_OPEN_CLOSING, ne_OPEN_CANCELLING, ne_OPEN_CLOSED, ne_OPEN_CANCELLED, ne_CLOSING_CANCELLING, ne_CLOSING_CLOSED, ne_CLOSING_CANCELLED, ne_CANCELLING_CLOSED, ne_CANCELLING_CANCELLED, ne_CLOSED_CANCELLED⟩ := FF'
  refine Go.cast (ef_1 m (4 : Int32)) ?_
  show Go p e below _ s₁ (mkF m 0 #[.val (.int (4 : Int32))] [])
  refine Go.iloadN X0 hx (hb hby d1_0) rfl rfl  ?_
  refine Go.ifYes X0 hx (hb hby d1_1) rfl 8 ((if0 _ _).trans (feq (by decide : ¬ ((4 : Int32) = (0 : Int32)))).2) (by decide) (by decide) ?_
  refine Go.iloadN X0 hx (hb hby d1_8) rfl rfl  ?_
  refine Go.iconst X0 hx (hb hby d1_9) rfl (1 : Int32) rfl ?_
  refine Go.icmpYes X0 hx (hb hby d1_10) rfl 17 (feq (by decide : ¬ ((4 : Int32) = (1 : Int32)))).2 (by decide) (by decide) ?_
  refine Go.iloadN X0 hx (hb hby d1_17) rfl rfl  ?_
  refine Go.iconst X0 hx (hb hby d1_18) rfl (2 : Int32) rfl ?_
  refine Go.icmpYes X0 hx (hb hby d1_19) rfl 26 (feq (by decide : ¬ ((4 : Int32) = (2 : Int32)))).2 (by decide) (by decide) ?_
  refine Go.iloadN X0 hx (hb hby d1_26) rfl rfl  ?_
  refine Go.iconst X0 hx (hb hby d1_27) rfl (3 : Int32) rfl ?_
  refine Go.icmpYes X0 hx (hb hby d1_28) rfl 35 (feq (by decide : ¬ ((4 : Int32) = (3 : Int32)))).2 (by decide) (by decide) ?_
  refine Go.getS X0 hx hZ hown (host := "") (Or.inl (wd 38 rfl)) Via.refl e0 (S_CANCELLED.ext O0.2) (hb hby d1_35) rfl ?_
  intro T1 X1 e1
  exact Go.retA X1 hx hret hlk rfl rfl (hb hby d1_38) rfl ⟨rfl, rfl, e1⟩ (Nat.le_of_ble_eq_true rfl) (Nat.le_of_ble_eq_true rfl)
set_option maxRecDepth 65536 in
set_option maxHeartbeats 40000000 in
theorem sp2_30 (l : Launch) (Z : State) (a0 : Array Value) (hw : ∀ d ∈ tables_1, d.before a0 Z = true) (a_OPEN : Addr) (a_CLOSED : Addr) (a_CANCELLED : Addr) (a_CLOSING : Addr) (a_CANCELLING : Addr)  (h0 : Heap) (O0 : Old Z Z.heap.size h0) (FF : Facts Z a_OPEN a_CLOSED a_CANCELLED a_CLOSING a_CANCELLING) : Pur l Z (⟨"com/example/nursery/nursery/NurseryState", "isTerminal", "()Z"⟩ : MethodName) prog_5_method_6_code 1 (some .boolean) 0 0 #[(.ref a_CANCELLED)] h0 (some (.int (1 : Int32))) := by
  refine Ctr.of (plainFor_of_name pn_2) ?_
  have wd : ∀ {d : Jvm.Cond} (i : Nat), tables_1[i]? = some d → d.before a0 Z = true := fun i q => hw _ (List.mem_of_getElem? q)
  intro p e s m below meth c s₁ hx hby hml hown hnm hret hlk hZ X0 e0
  have FF' := FF
  obtain ⟨S_OPEN, E_OPEN, S_CLOSED, E_CLOSED, F_OPEN_ordinal, F_CLOSED_ordinal, S_CANCELLED, E_CANCELLED, F_CANCELLED_ordinal, S_CLOSING, E_CLOSING, F_CLOSING_ordinal, S_CANCELLING, E_CANCELLING, F_CANCELLING_ordinal, ne_OPEN_CLOSING, ne_OPEN_CANCELLING, ne_OPEN_CLOSED, ne_OPEN_CANCELLED, ne_CLOSING_CANCELLING, ne_CLOSING_CLOSED, ne_CLOSING_CANCELLED, ne_CANCELLING_CLOSED, ne_CANCELLING_CANCELLED, ne_CLOSED_CANCELLED⟩ := FF'
  refine Go.cast (ef_2 m a_CANCELLED) ?_
  show Go p e below _ s₁ (mkF m 0 #[.val (.ref a_CANCELLED)] [])
  refine Go.aloadN X0 hx (hb hby d2_0) rfl rfl rfl ?_
  refine Go.getS X0 hx hZ hown (host := "") (Or.inl (wd 13 rfl)) Via.refl e0 (S_CLOSED.ext O0.2) (hb hby d2_1) rfl ?_
  intro T1 X1 e1
  refine Go.acmp X1 hx (hb hby d2_4) rfl rfl rfl false (decide_eq_false fun q => (Ne.symm ne_CLOSED_CANCELLED) (Value.ref.inj q)) 7 (by decide) (by decide) ?_
  refine Go.aloadN X1 hx (hb hby d2_7) rfl rfl rfl ?_
  refine Go.getS X1 hx hZ hown (host := "") (Or.inl (wd 15 rfl)) Via.refl e1 (S_CANCELLED.ext O0.2) (hb hby d2_8) rfl ?_
  intro T2 X2 e2
  refine Go.acmp X2 hx (hb hby d2_11) rfl rfl rfl true (decide_eq_true rfl) 14 (by decide) (by decide) ?_
  refine Go.iconst X2 hx (hb hby d2_14) rfl (1 : Int32) rfl ?_
  refine Go.goto X2 hx (hb hby d2_15) rfl 19 (by decide) (by decide) ?_
  exact Go.retZ X2 hx (z' := (1 : Int32)) hret hlk (hb hby d2_19) rfl (by decide) ⟨rfl, rfl, e2⟩ (Nat.le_of_ble_eq_true rfl) (Nat.le_of_ble_eq_true rfl)
set_option maxRecDepth 65536 in
set_option maxHeartbeats 40000000 in
theorem sp3_31 (l : Launch) (Z : State) (a0 : Array Value) (hw : ∀ d ∈ tables_1, d.before a0 Z = true) (a_OPEN : Addr) (a_CLOSED : Addr) (a_CANCELLED : Addr) (a_CLOSING : Addr) (a_CANCELLING : Addr)  (h0 : Heap) (O0 : Old Z Z.heap.size h0) (FF : Facts Z a_OPEN a_CLOSED a_CANCELLED a_CLOSING a_CANCELLING) : Pur l Z (⟨"com/example/nursery/nursery/NurseryState", "canMoveTo", "(Lcom/example/nursery/nursery/NurseryState;)Z"⟩ : MethodName) prog_5_method_7_code 2 (some .boolean) 1 12 #[(.ref a_CANCELLED), (.ref a_OPEN)] h0 (some (.int (0 : Int32))) := by
  refine Ctr.of (plainFor_of_name pn_2) ?_
  have wd : ∀ {d : Jvm.Cond} (i : Nat), tables_1[i]? = some d → d.before a0 Z = true := fun i q => hw _ (List.mem_of_getElem? q)
  intro p e s m below meth c s₁ hx hby hml hown hnm hret hlk hZ X0 e0
  have FF' := FF
  obtain ⟨S_OPEN, E_OPEN, S_CLOSED, E_CLOSED, F_OPEN_ordinal, F_CLOSED_ordinal, S_CANCELLED, E_CANCELLED, F_CANCELLED_ordinal, S_CLOSING, E_CLOSING, F_CLOSING_ordinal, S_CANCELLING, E_CANCELLING, F_CANCELLING_ordinal, ne_OPEN_CLOSING, ne_OPEN_CANCELLING, ne_OPEN_CLOSED, ne_OPEN_CANCELLED, ne_CLOSING_CANCELLING, ne_CLOSING_CLOSED, ne_CLOSING_CANCELLED, ne_CANCELLING_CLOSED, ne_CANCELLING_CANCELLED, ne_CLOSED_CANCELLED⟩ := FF'
  refine Go.cast (ef_3 m a_CANCELLED a_OPEN) ?_
  show Go p e below _ s₁ (mkF m 0 #[.val (.ref a_CANCELLED), .val (.ref a_OPEN)] [])
  refine Go.aloadN X0 hx (hb hby d3_0) rfl rfl rfl ?_
  refine Go.pureU X0 hx hZ (ow := "java/lang/Enum") hown (wd 22 rfl) (wd 23 rfl) (wd 24 rfl) (wd 26 rfl) (wd 25 rfl) (wd 27 rfl) (wd 28 rfl) (by decide) [] [] (E_OPEN.ext O0.2) (sp4_4 l Z a0 hw a_OPEN a_CLOSED a_CANCELLED a_CLOSING a_CANCELLING  h0 O0 FF) e0 rfl (by rw [hml]; rfl) pd_2 rfl (hb hby d3_1) (Nat.le_of_ble_eq_true rfl) (Nat.le_of_ble_eq_true rfl) (Nat.le_of_ble_eq_true rfl) (Nat.le_of_ble_eq_true rfl) ?_
  intro T1 X1 e1
  refine Go.tswIn X1 hx (o := 46) (hb hby d3_4) rfl 50 (by decide) (by decide) (by decide) (by decide) ?_
  refine Go.iconst X1 hx (hb hby d3_50) rfl (0 : Int32) rfl ?_
  refine Go.goto X1 hx (hb hby d3_51) rfl 118 (by decide) (by decide) ?_
  exact Go.retZ X1 hx (z' := (0 : Int32)) hret hlk (hb hby d3_118) rfl (by decide) ⟨rfl, rfl, e1⟩ (Nat.le_of_ble_eq_true rfl) (Nat.le_of_ble_eq_true rfl)
set_option maxRecDepth 65536 in
set_option maxHeartbeats 40000000 in
theorem sp3_32 (l : Launch) (Z : State) (a0 : Array Value) (hw : ∀ d ∈ tables_1, d.before a0 Z = true) (a_OPEN : Addr) (a_CLOSED : Addr) (a_CANCELLED : Addr) (a_CLOSING : Addr) (a_CANCELLING : Addr)  (h0 : Heap) (O0 : Old Z Z.heap.size h0) (FF : Facts Z a_OPEN a_CLOSED a_CANCELLED a_CLOSING a_CANCELLING) : Pur l Z (⟨"com/example/nursery/nursery/NurseryState", "canMoveTo", "(Lcom/example/nursery/nursery/NurseryState;)Z"⟩ : MethodName) prog_5_method_7_code 2 (some .boolean) 1 12 #[(.ref a_CANCELLED), (.ref a_CLOSING)] h0 (some (.int (0 : Int32))) := by
  refine Ctr.of (plainFor_of_name pn_2) ?_
  have wd : ∀ {d : Jvm.Cond} (i : Nat), tables_1[i]? = some d → d.before a0 Z = true := fun i q => hw _ (List.mem_of_getElem? q)
  intro p e s m below meth c s₁ hx hby hml hown hnm hret hlk hZ X0 e0
  have FF' := FF
  obtain ⟨S_OPEN, E_OPEN, S_CLOSED, E_CLOSED, F_OPEN_ordinal, F_CLOSED_ordinal, S_CANCELLED, E_CANCELLED, F_CANCELLED_ordinal, S_CLOSING, E_CLOSING, F_CLOSING_ordinal, S_CANCELLING, E_CANCELLING, F_CANCELLING_ordinal, ne_OPEN_CLOSING, ne_OPEN_CANCELLING, ne_OPEN_CLOSED, ne_OPEN_CANCELLED, ne_CLOSING_CANCELLING, ne_CLOSING_CLOSED, ne_CLOSING_CANCELLED, ne_CANCELLING_CLOSED, ne_CANCELLING_CANCELLED, ne_CLOSED_CANCELLED⟩ := FF'
  refine Go.cast (ef_3 m a_CANCELLED a_CLOSING) ?_
  show Go p e below _ s₁ (mkF m 0 #[.val (.ref a_CANCELLED), .val (.ref a_CLOSING)] [])
  refine Go.aloadN X0 hx (hb hby d3_0) rfl rfl rfl ?_
  refine Go.pureU X0 hx hZ (ow := "java/lang/Enum") hown (wd 22 rfl) (wd 23 rfl) (wd 24 rfl) (wd 26 rfl) (wd 25 rfl) (wd 27 rfl) (wd 28 rfl) (by decide) [] [] (E_CLOSING.ext O0.2) (sp4_6 l Z a0 hw a_OPEN a_CLOSED a_CANCELLED a_CLOSING a_CANCELLING  h0 O0 FF) e0 rfl (by rw [hml]; rfl) pd_2 rfl (hb hby d3_1) (Nat.le_of_ble_eq_true rfl) (Nat.le_of_ble_eq_true rfl) (Nat.le_of_ble_eq_true rfl) (Nat.le_of_ble_eq_true rfl) ?_
  intro T1 X1 e1
  refine Go.tswIn X1 hx (o := 50) (hb hby d3_4) rfl 54 (by decide) (by decide) (by decide) (by decide) ?_
  refine Go.aloadN X1 hx (hb hby d3_54) rfl rfl rfl ?_
  refine Go.getS X1 hx hZ hown (host := "") (Or.inl (wd 33 rfl)) Via.refl e1 (S_OPEN.ext O0.2) (hb hby d3_55) rfl ?_
  intro T2 X2 e2
  refine Go.acmp X2 hx (hb hby d3_58) rfl rfl rfl false (decide_eq_false fun q => (Ne.symm ne_OPEN_CANCELLED) (Value.ref.inj q)) 65 (by decide) (by decide) ?_
  refine Go.iconst X2 hx (hb hby d3_65) rfl (0 : Int32) rfl ?_
  refine Go.goto X2 hx (hb hby d3_66) rfl 118 (by decide) (by decide) ?_
  exact Go.retZ X2 hx (z' := (0 : Int32)) hret hlk (hb hby d3_118) rfl (by decide) ⟨rfl, rfl, e2⟩ (Nat.le_of_ble_eq_true rfl) (Nat.le_of_ble_eq_true rfl)
set_option maxRecDepth 65536 in
set_option maxHeartbeats 40000000 in
theorem sp3_33 (l : Launch) (Z : State) (a0 : Array Value) (hw : ∀ d ∈ tables_1, d.before a0 Z = true) (a_OPEN : Addr) (a_CLOSED : Addr) (a_CANCELLED : Addr) (a_CLOSING : Addr) (a_CANCELLING : Addr)  (h0 : Heap) (O0 : Old Z Z.heap.size h0) (FF : Facts Z a_OPEN a_CLOSED a_CANCELLED a_CLOSING a_CANCELLING) : Pur l Z (⟨"com/example/nursery/nursery/NurseryState", "canMoveTo", "(Lcom/example/nursery/nursery/NurseryState;)Z"⟩ : MethodName) prog_5_method_7_code 2 (some .boolean) 1 12 #[(.ref a_CANCELLED), (.ref a_CANCELLING)] h0 (some (.int (0 : Int32))) := by
  refine Ctr.of (plainFor_of_name pn_2) ?_
  have wd : ∀ {d : Jvm.Cond} (i : Nat), tables_1[i]? = some d → d.before a0 Z = true := fun i q => hw _ (List.mem_of_getElem? q)
  intro p e s m below meth c s₁ hx hby hml hown hnm hret hlk hZ X0 e0
  have FF' := FF
  obtain ⟨S_OPEN, E_OPEN, S_CLOSED, E_CLOSED, F_OPEN_ordinal, F_CLOSED_ordinal, S_CANCELLED, E_CANCELLED, F_CANCELLED_ordinal, S_CLOSING, E_CLOSING, F_CLOSING_ordinal, S_CANCELLING, E_CANCELLING, F_CANCELLING_ordinal, ne_OPEN_CLOSING, ne_OPEN_CANCELLING, ne_OPEN_CLOSED, ne_OPEN_CANCELLED, ne_CLOSING_CANCELLING, ne_CLOSING_CLOSED, ne_CLOSING_CANCELLED, ne_CANCELLING_CLOSED, ne_CANCELLING_CANCELLED, ne_CLOSED_CANCELLED⟩ := FF'
  refine Go.cast (ef_3 m a_CANCELLED a_CANCELLING) ?_
  show Go p e below _ s₁ (mkF m 0 #[.val (.ref a_CANCELLED), .val (.ref a_CANCELLING)] [])
  refine Go.aloadN X0 hx (hb hby d3_0) rfl rfl rfl ?_
  refine Go.pureU X0 hx hZ (ow := "java/lang/Enum") hown (wd 22 rfl) (wd 23 rfl) (wd 24 rfl) (wd 26 rfl) (wd 25 rfl) (wd 27 rfl) (wd 28 rfl) (by decide) [] [] (E_CANCELLING.ext O0.2) (sp4_12 l Z a0 hw a_OPEN a_CLOSED a_CANCELLED a_CLOSING a_CANCELLING  h0 O0 FF) e0 rfl (by rw [hml]; rfl) pd_2 rfl (hb hby d3_1) (Nat.le_of_ble_eq_true rfl) (Nat.le_of_ble_eq_true rfl) (Nat.le_of_ble_eq_true rfl) (Nat.le_of_ble_eq_true rfl) ?_
  intro T1 X1 e1
  refine Go.tswIn X1 hx (o := 65) (hb hby d3_4) rfl 69 (by decide) (by decide) (by decide) (by decide) ?_
  refine Go.aloadN X1 hx (hb hby d3_69) rfl rfl rfl ?_
  refine Go.getS X1 hx hZ hown (host := "") (Or.inl (wd 33 rfl)) Via.refl e1 (S_OPEN.ext O0.2) (hb hby d3_70) rfl ?_
  intro T2 X2 e2
  refine Go.acmp X2 hx (hb hby d3_73) rfl rfl rfl false (decide_eq_false fun q => (Ne.symm ne_OPEN_CANCELLED) (Value.ref.inj q)) 76 (by decide) (by decide) ?_
  refine Go.aloadN X2 hx (hb hby d3_76) rfl rfl rfl ?_
  refine Go.getS X2 hx hZ hown (host := "") (Or.inl (wd 37 rfl)) Via.refl e2 (S_CLOSING.ext O0.2) (hb hby d3_77) rfl ?_
  intro T3 X3 e3
  refine Go.acmp X3 hx (hb hby d3_80) rfl rfl rfl false (decide_eq_false fun q => (Ne.symm ne_CLOSING_CANCELLED) (Value.ref.inj q)) 87 (by decide) (by decide) ?_
  refine Go.iconst X3 hx (hb hby d3_87) rfl (0 : Int32) rfl ?_
  refine Go.goto X3 hx (hb hby d3_88) rfl 118 (by decide) (by decide) ?_
  exact Go.retZ X3 hx (z' := (0 : Int32)) hret hlk (hb hby d3_118) rfl (by decide) ⟨rfl, rfl, e3⟩ (Nat.le_of_ble_eq_true rfl) (Nat.le_of_ble_eq_true rfl)
set_option maxRecDepth 65536 in
set_option maxHeartbeats 40000000 in
theorem sp3_34 (l : Launch) (Z : State) (a0 : Array Value) (hw : ∀ d ∈ tables_1, d.before a0 Z = true) (a_OPEN : Addr) (a_CLOSED : Addr) (a_CANCELLED : Addr) (a_CLOSING : Addr) (a_CANCELLING : Addr)  (h0 : Heap) (O0 : Old Z Z.heap.size h0) (FF : Facts Z a_OPEN a_CLOSED a_CANCELLED a_CLOSING a_CANCELLING) : Pur l Z (⟨"com/example/nursery/nursery/NurseryState", "canMoveTo", "(Lcom/example/nursery/nursery/NurseryState;)Z"⟩ : MethodName) prog_5_method_7_code 2 (some .boolean) 1 12 #[(.ref a_CANCELLED), (.ref a_CLOSED)] h0 (some (.int (0 : Int32))) := by
  refine Ctr.of (plainFor_of_name pn_2) ?_
  have wd : ∀ {d : Jvm.Cond} (i : Nat), tables_1[i]? = some d → d.before a0 Z = true := fun i q => hw _ (List.mem_of_getElem? q)
  intro p e s m below meth c s₁ hx hby hml hown hnm hret hlk hZ X0 e0
  have FF' := FF
  obtain ⟨S_OPEN, E_OPEN, S_CLOSED, E_CLOSED, F_OPEN_ordinal, F_CLOSED_ordinal, S_CANCELLED, E_CANCELLED, F_CANCELLED_ordinal, S_CLOSING, E_CLOSING, F_CLOSING_ordinal, S_CANCELLING, E_CANCELLING, F_CANCELLING_ordinal, ne_OPEN_CLOSING, ne_OPEN_CANCELLING, ne_OPEN_CLOSED, ne_OPEN_CANCELLED, ne_CLOSING_CANCELLING, ne_CLOSING_CLOSED, ne_CLOSING_CANCELLED, ne_CANCELLING_CLOSED, ne_CANCELLING_CANCELLED, ne_CLOSED_CANCELLED⟩ := FF'
  refine Go.cast (ef_3 m a_CANCELLED a_CLOSED) ?_
  show Go p e below _ s₁ (mkF m 0 #[.val (.ref a_CANCELLED), .val (.ref a_CLOSED)] [])
  refine Go.aloadN X0 hx (hb hby d3_0) rfl rfl rfl ?_
  refine Go.pureU X0 hx hZ (ow := "java/lang/Enum") hown (wd 22 rfl) (wd 23 rfl) (wd 24 rfl) (wd 26 rfl) (wd 25 rfl) (wd 27 rfl) (wd 28 rfl) (by decide) [] [] (E_CLOSED.ext O0.2) (sp4_19 l Z a0 hw a_OPEN a_CLOSED a_CANCELLED a_CLOSING a_CANCELLING  h0 O0 FF) e0 rfl (by rw [hml]; rfl) pd_2 rfl (hb hby d3_1) (Nat.le_of_ble_eq_true rfl) (Nat.le_of_ble_eq_true rfl) (Nat.le_of_ble_eq_true rfl) (Nat.le_of_ble_eq_true rfl) ?_
  intro T1 X1 e1
  refine Go.tswIn X1 hx (o := 87) (hb hby d3_4) rfl 91 (by decide) (by decide) (by decide) (by decide) ?_
  refine Go.aloadN X1 hx (hb hby d3_91) rfl rfl rfl ?_
  refine Go.getS X1 hx hZ hown (host := "") (Or.inl (wd 37 rfl)) Via.refl e1 (S_CLOSING.ext O0.2) (hb hby d3_92) rfl ?_
  intro T2 X2 e2
  refine Go.acmp X2 hx (hb hby d3_95) rfl rfl rfl false (decide_eq_false fun q => (Ne.symm ne_CLOSING_CANCELLED) (Value.ref.inj q)) 102 (by decide) (by decide) ?_
  refine Go.iconst X2 hx (hb hby d3_102) rfl (0 : Int32) rfl ?_
  refine Go.goto X2 hx (hb hby d3_103) rfl 118 (by decide) (by decide) ?_
  exact Go.retZ X2 hx (z' := (0 : Int32)) hret hlk (hb hby d3_118) rfl (by decide) ⟨rfl, rfl, e2⟩ (Nat.le_of_ble_eq_true rfl) (Nat.le_of_ble_eq_true rfl)
set_option maxRecDepth 65536 in
set_option maxHeartbeats 40000000 in
theorem sp3_35 (l : Launch) (Z : State) (a0 : Array Value) (hw : ∀ d ∈ tables_1, d.before a0 Z = true) (a_OPEN : Addr) (a_CLOSED : Addr) (a_CANCELLED : Addr) (a_CLOSING : Addr) (a_CANCELLING : Addr)  (h0 : Heap) (O0 : Old Z Z.heap.size h0) (FF : Facts Z a_OPEN a_CLOSED a_CANCELLED a_CLOSING a_CANCELLING) : Pur l Z (⟨"com/example/nursery/nursery/NurseryState", "canMoveTo", "(Lcom/example/nursery/nursery/NurseryState;)Z"⟩ : MethodName) prog_5_method_7_code 2 (some .boolean) 1 12 #[(.ref a_CANCELLED), (.ref a_CANCELLED)] h0 (some (.int (0 : Int32))) := by
  refine Ctr.of (plainFor_of_name pn_2) ?_
  have wd : ∀ {d : Jvm.Cond} (i : Nat), tables_1[i]? = some d → d.before a0 Z = true := fun i q => hw _ (List.mem_of_getElem? q)
  intro p e s m below meth c s₁ hx hby hml hown hnm hret hlk hZ X0 e0
  have FF' := FF
  obtain ⟨S_OPEN, E_OPEN, S_CLOSED, E_CLOSED, F_OPEN_ordinal, F_CLOSED_ordinal, S_CANCELLED, E_CANCELLED, F_CANCELLED_ordinal, S_CLOSING, E_CLOSING, F_CLOSING_ordinal, S_CANCELLING, E_CANCELLING, F_CANCELLING_ordinal, ne_OPEN_CLOSING, ne_OPEN_CANCELLING, ne_OPEN_CLOSED, ne_OPEN_CANCELLED, ne_CLOSING_CANCELLING, ne_CLOSING_CLOSED, ne_CLOSING_CANCELLED, ne_CANCELLING_CLOSED, ne_CANCELLING_CANCELLED, ne_CLOSED_CANCELLED⟩ := FF'
  refine Go.cast (ef_3 m a_CANCELLED a_CANCELLED) ?_
  show Go p e below _ s₁ (mkF m 0 #[.val (.ref a_CANCELLED), .val (.ref a_CANCELLED)] [])
  refine Go.aloadN X0 hx (hb hby d3_0) rfl rfl rfl ?_
  refine Go.pureU X0 hx hZ (ow := "java/lang/Enum") hown (wd 22 rfl) (wd 23 rfl) (wd 24 rfl) (wd 26 rfl) (wd 25 rfl) (wd 27 rfl) (wd 28 rfl) (by decide) [] [] (E_CANCELLED.ext O0.2) (sp4_21 l Z a0 hw a_OPEN a_CLOSED a_CANCELLED a_CLOSING a_CANCELLING  h0 O0 FF) e0 rfl (by rw [hml]; rfl) pd_2 rfl (hb hby d3_1) (Nat.le_of_ble_eq_true rfl) (Nat.le_of_ble_eq_true rfl) (Nat.le_of_ble_eq_true rfl) (Nat.le_of_ble_eq_true rfl) ?_
  intro T1 X1 e1
  refine Go.tswIn X1 hx (o := 102) (hb hby d3_4) rfl 106 (by decide) (by decide) (by decide) (by decide) ?_
  refine Go.aloadN X1 hx (hb hby d3_106) rfl rfl rfl ?_
  refine Go.getS X1 hx hZ hown (host := "") (Or.inl (wd 39 rfl)) Via.refl e1 (S_CANCELLING.ext O0.2) (hb hby d3_107) rfl ?_
  intro T2 X2 e2
  refine Go.acmp X2 hx (hb hby d3_110) rfl rfl rfl false (decide_eq_false fun q => (Ne.symm ne_CANCELLING_CANCELLED) (Value.ref.inj q)) 117 (by decide) (by decide) ?_
  refine Go.iconst X2 hx (hb hby d3_117) rfl (0 : Int32) rfl ?_
  exact Go.retZ X2 hx (z' := (0 : Int32)) hret hlk (hb hby d3_118) rfl (by decide) ⟨rfl, rfl, e2⟩ (Nat.le_of_ble_eq_true rfl) (Nat.le_of_ble_eq_true rfl)
set_option maxRecDepth 65536 in
set_option maxHeartbeats 40000000 in
theorem rm0 (l : Launch) (Z : State) (a0 : Array Value) (hw : ∀ d ∈ tables_1, d.before a0 Z = true) (x0 : Int32) (a_OPEN : Addr) (a_CLOSED : Addr) (a_CANCELLED : Addr) (a_CLOSING : Addr) (a_CANCELLING : Addr) (FF : Facts Z a_OPEN a_CLOSED a_CANCELLED a_CLOSING a_CANCELLING) : Ctr l Z x code maxLocals ret room_1 #[(.int x0)] Z.heap (fun v h L => v = some (.int 1) ∧ Fr Z.heap.size L) := by
  refine Ctr.of (plainFor_of_name pn_0) ?_
  have wd : ∀ {d : Jvm.Cond} (i : Nat), tables_1[i]? = some d → d.before a0 Z = true := fun i q => hw _ (List.mem_of_getElem? q)
  intro p e s m below meth c s₁ hx hby hml hown hnm hret hlk hZ X0 e0
  have FF' := FF
  obtain ⟨S_OPEN, E_OPEN, S_CLOSED, E_CLOSED, F_OPEN_ordinal, F_CLOSED_ordinal, S_CANCELLED, E_CANCELLED, F_CANCELLED_ordinal, S_CLOSING, E_CLOSING, F_CLOSING_ordinal, S_CANCELLING, E_CANCELLING, F_CANCELLING_ordinal, ne_OPEN_CLOSING, ne_OPEN_CANCELLING, ne_OPEN_CLOSED, ne_OPEN_CANCELLED, ne_CLOSING_CANCELLING, ne_CLOSING_CLOSED, ne_CLOSING_CANCELLED, ne_CANCELLING_CLOSED, ne_CANCELLING_CANCELLED, ne_CLOSED_CANCELLED⟩ := FF'
  have hown : s.vm.findClass "com/example/nursery/nursery/NurseryStateIsTerminalPinLaw" = some m.cls := hown
  have O0 := Old.start Z
  refine Go.cast (ef_0 m x0) ?_
  show Go p e below _ s₁ (mkF m 0 #[.val (.int x0), .unset, .unset, .unset, .unset, .unset] [])
  refine Go.iloadN X0 hx (hb hby at_0) rfl rfl  ?_
  refine Go.ldc X0 hx hZ hown (wd 0 rfl) (hb hby at_1) rfl ?_
  refine Go.iand X0 hx (hb hby at_3) rfl ?_
  refine Go.iconst X0 hx (hb hby at_4) rfl (5 : Int32) rfl ?_
  refine Go.irem X0 hx (hb hby at_5) rfl (by decide) ?_
  rcases own_rem5 x0 with hk | hk | hk | hk | hk
  · rw [hk]
    refine Go.istoreN X0 hx (hb hby at_6) rfl  #[.val (.int x0), .val (.int (0 : Int32)), .unset, .unset, .unset, .unset] rfl ?_
    refine Go.iloadN X0 hx (hb hby at_7) rfl rfl  ?_
    refine Go.pureS X0 hx hZ hown (wd 1 rfl) (wd 2 rfl) (wd 3 rfl) (wd 4 rfl) (by decide) [(.int (0 : Int32))] [] (sp1_1 l Z a0 hw a_OPEN a_CLOSED a_CANCELLED a_CLOSING a_CANCELLING  Z.heap O0 FF) e0 rfl (by rw [hml]; rfl) pd_0 rfl (hb hby at_8) (Nat.le_of_ble_eq_true rfl) (Nat.le_of_ble_eq_true rfl) (Nat.le_of_ble_eq_true rfl) (Nat.le_of_ble_eq_true rfl) ?_
    intro T1 X1 e1
    refine Go.astoreN X1 hx (hb hby at_11) rfl rfl #[.val (.int x0), .val (.int (0 : Int32)), .val (.ref a_OPEN), .unset, .unset, .unset] rfl ?_
    refine Go.aloadN X1 hx (hb hby at_12) rfl rfl rfl ?_
    refine Go.pureV X1 hx hZ hown (wd 8 rfl) (wd 9 rfl) (notFace_of_selects (args := #[]) (mvT hZ (wd 11 rfl))) (wd 11 rfl) (wd 10 rfl) (wd 6 rfl) (wd 12 rfl) (by decide) [] [] (E_OPEN.ext O0.2) (sp2_2 l Z a0 hw a_OPEN a_CLOSED a_CANCELLED a_CLOSING a_CANCELLING  Z.heap O0 FF) e1 rfl (by rw [hml]; rfl) pd_1 rfl (hb hby at_13) (Nat.le_of_ble_eq_true rfl) (Nat.le_of_ble_eq_true rfl) (Nat.le_of_ble_eq_true rfl) (Nat.le_of_ble_eq_true rfl) ?_
    intro T2 X2 e2
    refine Go.istoreN X2 hx (hb hby at_16) rfl  #[.val (.int x0), .val (.int (0 : Int32)), .val (.ref a_OPEN), .val (.int (0 : Int32)), .unset, .unset] rfl ?_
    refine Go.iloadN X2 hx (hb hby at_17) rfl rfl  ?_
    refine Go.iconst X2 hx (hb hby at_18) rfl (3 : Int32) rfl ?_
    refine Go.icmpNo X2 hx (hb hby at_19) rfl (feq (by decide : ¬ ((0 : Int32) = (3 : Int32)))).1 ?_
    refine Go.iloadN X2 hx (hb hby at_22) rfl rfl  ?_
    refine Go.iconst X2 hx (hb hby at_23) rfl (4 : Int32) rfl ?_
    refine Go.icmpYes X2 hx (hb hby at_24) rfl 31 (feq (by decide : ¬ ((0 : Int32) = (4 : Int32)))).2 (by decide) (by decide) ?_
    refine Go.iconst X2 hx (hb hby at_31) rfl (0 : Int32) rfl ?_
    refine Go.istore X2 hx (hb hby at_32) rfl  #[.val (.int x0), .val (.int (0 : Int32)), .val (.ref a_OPEN), .val (.int (0 : Int32)), .val (.int (0 : Int32)), .unset] rfl ?_
    refine Go.aloadN X2 hx (hb hby at_34) rfl rfl rfl ?_
    refine Go.getS X2 hx hZ hown (host := "") (Or.inl (wd 5 rfl)) Via.refl e2 (S_OPEN.ext O0.2) (hb hby at_35) rfl ?_
    intro T3 X3 e3
    refine Go.pureV X3 hx hZ hown (wd 17 rfl) (wd 18 rfl) (notFace_of_selects (args := #[]) (mvT hZ (wd 20 rfl))) (wd 20 rfl) (wd 19 rfl) (wd 6 rfl) (wd 21 rfl) (by decide) [(.ref a_OPEN)] [] (E_OPEN.ext O0.2) (sp3_3 l Z a0 hw a_OPEN a_CLOSED a_CANCELLED a_CLOSING a_CANCELLING  Z.heap O0 FF) e3 rfl (by rw [hml]; rfl) pd_3 rfl (hb hby at_38) (Nat.le_of_ble_eq_true rfl) (Nat.le_of_ble_eq_true rfl) (Nat.le_of_ble_eq_true rfl) (Nat.le_of_ble_eq_true rfl) ?_
    intro T4 X4 e4
    refine Go.ifNo X4 hx (hb hby at_41) rfl ((if0 _ _).trans (teq (by decide : (0 : Int32) = (0 : Int32))).2) ?_
    refine Go.aloadN X4 hx (hb hby at_44) rfl rfl rfl ?_
    refine Go.getS X4 hx hZ hown (host := "") (Or.inl (wd 31 rfl)) Via.refl e4 (S_CLOSING.ext O0.2) (hb hby at_45) rfl ?_
    intro T5 X5 e5
    refine Go.pureV X5 hx hZ hown (wd 17 rfl) (wd 18 rfl) (notFace_of_selects (args := #[]) (mvT hZ (wd 20 rfl))) (wd 20 rfl) (wd 19 rfl) (wd 6 rfl) (wd 21 rfl) (by decide) [(.ref a_CLOSING)] [] (E_OPEN.ext O0.2) (sp3_5 l Z a0 hw a_OPEN a_CLOSED a_CANCELLED a_CLOSING a_CANCELLING  Z.heap O0 FF) e5 rfl (by rw [hml]; rfl) pd_3 rfl (hb hby at_48) (Nat.le_of_ble_eq_true rfl) (Nat.le_of_ble_eq_true rfl) (Nat.le_of_ble_eq_true rfl) (Nat.le_of_ble_eq_true rfl) ?_
    intro T6 X6 e6
    refine Go.ifYes X6 hx (hb hby at_51) rfl 84 ((if0 _ _).trans (feq (by decide : ¬ ((1 : Int32) = (0 : Int32)))).2) (by decide) (by decide) ?_
    refine Go.iconst X6 hx (hb hby at_84) rfl (1 : Int32) rfl ?_
    refine Go.goto X6 hx (hb hby at_85) rfl 89 (by decide) (by decide) ?_
    refine Go.istore X6 hx (hb hby at_89) rfl  #[.val (.int x0), .val (.int (0 : Int32)), .val (.ref a_OPEN), .val (.int (0 : Int32)), .val (.int (0 : Int32)), .val (.int (1 : Int32))] rfl ?_
    refine Go.iloadN X6 hx (hb hby at_91) rfl rfl  ?_
    refine Go.iload X6 hx (hb hby at_92) rfl rfl  ?_
    refine Go.icmpNo X6 hx (hb hby at_94) rfl (teq (by decide : (0 : Int32) = (0 : Int32))).2 ?_
    refine Go.iloadN X6 hx (hb hby at_97) rfl rfl  ?_
    refine Go.iload X6 hx (hb hby at_98) rfl rfl  ?_
    refine Go.ifYes X6 hx (hb hby at_100) rfl 107 ((if0 _ _).trans (feq (by decide : ¬ ((1 : Int32) = (0 : Int32)))).2) (by decide) (by decide) ?_
    refine Go.iconst X6 hx (hb hby at_107) rfl (0 : Int32) rfl ?_
    refine Go.icmpNo X6 hx (hb hby at_108) rfl (teq (by decide : (0 : Int32) = (0 : Int32))).2 ?_
    refine Go.iconst X6 hx (hb hby at_111) rfl (1 : Int32) rfl ?_
    refine Go.goto X6 hx (hb hby at_112) rfl 116 (by decide) (by decide) ?_
    exact Go.retZ X6 hx (z' := (1 : Int32)) hret hlk (hb hby at_116) rfl (by decide) ⟨by first | rfl | simp [], (Fr.nil _)⟩ (Nat.le_of_ble_eq_true rfl) (Nat.le_of_ble_eq_true rfl)
  · rw [hk]
    refine Go.istoreN X0 hx (hb hby at_6) rfl  #[.val (.int x0), .val (.int (1 : Int32)), .unset, .unset, .unset, .unset] rfl ?_
    refine Go.iloadN X0 hx (hb hby at_7) rfl rfl  ?_
    refine Go.pureS X0 hx hZ hown (wd 1 rfl) (wd 2 rfl) (wd 3 rfl) (wd 4 rfl) (by decide) [(.int (1 : Int32))] [] (sp1_7 l Z a0 hw a_OPEN a_CLOSED a_CANCELLED a_CLOSING a_CANCELLING  Z.heap O0 FF) e0 rfl (by rw [hml]; rfl) pd_0 rfl (hb hby at_8) (Nat.le_of_ble_eq_true rfl) (Nat.le_of_ble_eq_true rfl) (Nat.le_of_ble_eq_true rfl) (Nat.le_of_ble_eq_true rfl) ?_
    intro T7 X7 e7
    refine Go.astoreN X7 hx (hb hby at_11) rfl rfl #[.val (.int x0), .val (.int (1 : Int32)), .val (.ref a_CLOSING), .unset, .unset, .unset] rfl ?_
    refine Go.aloadN X7 hx (hb hby at_12) rfl rfl rfl ?_
    refine Go.pureV X7 hx hZ hown (wd 8 rfl) (wd 9 rfl) (notFace_of_selects (args := #[]) (mvT hZ (wd 11 rfl))) (wd 11 rfl) (wd 10 rfl) (wd 6 rfl) (wd 12 rfl) (by decide) [] [] (E_CLOSING.ext O0.2) (sp2_8 l Z a0 hw a_OPEN a_CLOSED a_CANCELLED a_CLOSING a_CANCELLING  Z.heap O0 FF) e7 rfl (by rw [hml]; rfl) pd_1 rfl (hb hby at_13) (Nat.le_of_ble_eq_true rfl) (Nat.le_of_ble_eq_true rfl) (Nat.le_of_ble_eq_true rfl) (Nat.le_of_ble_eq_true rfl) ?_
    intro T8 X8 e8
    refine Go.istoreN X8 hx (hb hby at_16) rfl  #[.val (.int x0), .val (.int (1 : Int32)), .val (.ref a_CLOSING), .val (.int (0 : Int32)), .unset, .unset] rfl ?_
    refine Go.iloadN X8 hx (hb hby at_17) rfl rfl  ?_
    refine Go.iconst X8 hx (hb hby at_18) rfl (3 : Int32) rfl ?_
    refine Go.icmpNo X8 hx (hb hby at_19) rfl (feq (by decide : ¬ ((1 : Int32) = (3 : Int32)))).1 ?_
    refine Go.iloadN X8 hx (hb hby at_22) rfl rfl  ?_
    refine Go.iconst X8 hx (hb hby at_23) rfl (4 : Int32) rfl ?_
    refine Go.icmpYes X8 hx (hb hby at_24) rfl 31 (feq (by decide : ¬ ((1 : Int32) = (4 : Int32)))).2 (by decide) (by decide) ?_
    refine Go.iconst X8 hx (hb hby at_31) rfl (0 : Int32) rfl ?_
    refine Go.istore X8 hx (hb hby at_32) rfl  #[.val (.int x0), .val (.int (1 : Int32)), .val (.ref a_CLOSING), .val (.int (0 : Int32)), .val (.int (0 : Int32)), .unset] rfl ?_
    refine Go.aloadN X8 hx (hb hby at_34) rfl rfl rfl ?_
    refine Go.getS X8 hx hZ hown (host := "") (Or.inl (wd 5 rfl)) Via.refl e8 (S_OPEN.ext O0.2) (hb hby at_35) rfl ?_
    intro T9 X9 e9
    refine Go.pureV X9 hx hZ hown (wd 17 rfl) (wd 18 rfl) (notFace_of_selects (args := #[]) (mvT hZ (wd 20 rfl))) (wd 20 rfl) (wd 19 rfl) (wd 6 rfl) (wd 21 rfl) (by decide) [(.ref a_OPEN)] [] (E_CLOSING.ext O0.2) (sp3_9 l Z a0 hw a_OPEN a_CLOSED a_CANCELLED a_CLOSING a_CANCELLING  Z.heap O0 FF) e9 rfl (by rw [hml]; rfl) pd_3 rfl (hb hby at_38) (Nat.le_of_ble_eq_true rfl) (Nat.le_of_ble_eq_true rfl) (Nat.le_of_ble_eq_true rfl) (Nat.le_of_ble_eq_true rfl) ?_
    intro T10 X10 e10
    refine Go.ifNo X10 hx (hb hby at_41) rfl ((if0 _ _).trans (teq (by decide : (0 : Int32) = (0 : Int32))).2) ?_
    refine Go.aloadN X10 hx (hb hby at_44) rfl rfl rfl ?_
    refine Go.getS X10 hx hZ hown (host := "") (Or.inl (wd 31 rfl)) Via.refl e10 (S_CLOSING.ext O0.2) (hb hby at_45) rfl ?_
    intro T11 X11 e11
    refine Go.pureV X11 hx hZ hown (wd 17 rfl) (wd 18 rfl) (notFace_of_selects (args := #[]) (mvT hZ (wd 20 rfl))) (wd 20 rfl) (wd 19 rfl) (wd 6 rfl) (wd 21 rfl) (by decide) [(.ref a_CLOSING)] [] (E_CLOSING.ext O0.2) (sp3_10 l Z a0 hw a_OPEN a_CLOSED a_CANCELLED a_CLOSING a_CANCELLING  Z.heap O0 FF) e11 rfl (by rw [hml]; rfl) pd_3 rfl (hb hby at_48) (Nat.le_of_ble_eq_true rfl) (Nat.le_of_ble_eq_true rfl) (Nat.le_of_ble_eq_true rfl) (Nat.le_of_ble_eq_true rfl) ?_
    intro T12 X12 e12
    refine Go.ifNo X12 hx (hb hby at_51) rfl ((if0 _ _).trans (teq (by decide : (0 : Int32) = (0 : Int32))).2) ?_
    refine Go.aloadN X12 hx (hb hby at_54) rfl rfl rfl ?_
    refine Go.getS X12 hx hZ hown (host := "") (Or.inl (wd 35 rfl)) Via.refl e12 (S_CANCELLING.ext O0.2) (hb hby at_55) rfl ?_
    intro T13 X13 e13
    refine Go.pureV X13 hx hZ hown (wd 17 rfl) (wd 18 rfl) (notFace_of_selects (args := #[]) (mvT hZ (wd 20 rfl))) (wd 20 rfl) (wd 19 rfl) (wd 6 rfl) (wd 21 rfl) (by decide) [(.ref a_CANCELLING)] [] (E_CLOSING.ext O0.2) (sp3_11 l Z a0 hw a_OPEN a_CLOSED a_CANCELLED a_CLOSING a_CANCELLING  Z.heap O0 FF) e13 rfl (by rw [hml]; rfl) pd_3 rfl (hb hby at_58) (Nat.le_of_ble_eq_true rfl) (Nat.le_of_ble_eq_true rfl) (Nat.le_of_ble_eq_true rfl) (Nat.le_of_ble_eq_true rfl) ?_
    intro T14 X14 e14
    refine Go.ifYes X14 hx (hb hby at_61) rfl 84 ((if0 _ _).trans (feq (by decide : ¬ ((1 : Int32) = (0 : Int32)))).2) (by decide) (by decide) ?_
    refine Go.iconst X14 hx (hb hby at_84) rfl (1 : Int32) rfl ?_
    refine Go.goto X14 hx (hb hby at_85) rfl 89 (by decide) (by decide) ?_
    refine Go.istore X14 hx (hb hby at_89) rfl  #[.val (.int x0), .val (.int (1 : Int32)), .val (.ref a_CLOSING), .val (.int (0 : Int32)), .val (.int (0 : Int32)), .val (.int (1 : Int32))] rfl ?_
    refine Go.iloadN X14 hx (hb hby at_91) rfl rfl  ?_
    refine Go.iload X14 hx (hb hby at_92) rfl rfl  ?_
    refine Go.icmpNo X14 hx (hb hby at_94) rfl (teq (by decide : (0 : Int32) = (0 : Int32))).2 ?_
    refine Go.iloadN X14 hx (hb hby at_97) rfl rfl  ?_
    refine Go.iload X14 hx (hb hby at_98) rfl rfl  ?_
    refine Go.ifYes X14 hx (hb hby at_100) rfl 107 ((if0 _ _).trans (feq (by decide : ¬ ((1 : Int32) = (0 : Int32)))).2) (by decide) (by decide) ?_
    refine Go.iconst X14 hx (hb hby at_107) rfl (0 : Int32) rfl ?_
    refine Go.icmpNo X14 hx (hb hby at_108) rfl (teq (by decide : (0 : Int32) = (0 : Int32))).2 ?_
    refine Go.iconst X14 hx (hb hby at_111) rfl (1 : Int32) rfl ?_
    refine Go.goto X14 hx (hb hby at_112) rfl 116 (by decide) (by decide) ?_
    exact Go.retZ X14 hx (z' := (1 : Int32)) hret hlk (hb hby at_116) rfl (by decide) ⟨by first | rfl | simp [], (Fr.nil _)⟩ (Nat.le_of_ble_eq_true rfl) (Nat.le_of_ble_eq_true rfl)
  · rw [hk]
    refine Go.istoreN X0 hx (hb hby at_6) rfl  #[.val (.int x0), .val (.int (2 : Int32)), .unset, .unset, .unset, .unset] rfl ?_
    refine Go.iloadN X0 hx (hb hby at_7) rfl rfl  ?_
    refine Go.pureS X0 hx hZ hown (wd 1 rfl) (wd 2 rfl) (wd 3 rfl) (wd 4 rfl) (by decide) [(.int (2 : Int32))] [] (sp1_13 l Z a0 hw a_OPEN a_CLOSED a_CANCELLED a_CLOSING a_CANCELLING  Z.heap O0 FF) e0 rfl (by rw [hml]; rfl) pd_0 rfl (hb hby at_8) (Nat.le_of_ble_eq_true rfl) (Nat.le_of_ble_eq_true rfl) (Nat.le_of_ble_eq_true rfl) (Nat.le_of_ble_eq_true rfl) ?_
    intro T15 X15 e15
    refine Go.astoreN X15 hx (hb hby at_11) rfl rfl #[.val (.int x0), .val (.int (2 : Int32)), .val (.ref a_CANCELLING), .unset, .unset, .unset] rfl ?_
    refine Go.aloadN X15 hx (hb hby at_12) rfl rfl rfl ?_
    refine Go.pureV X15 hx hZ hown (wd 8 rfl) (wd 9 rfl) (notFace_of_selects (args := #[]) (mvT hZ (wd 11 rfl))) (wd 11 rfl) (wd 10 rfl) (wd 6 rfl) (wd 12 rfl) (by decide) [] [] (E_CANCELLING.ext O0.2) (sp2_14 l Z a0 hw a_OPEN a_CLOSED a_CANCELLED a_CLOSING a_CANCELLING  Z.heap O0 FF) e15 rfl (by rw [hml]; rfl) pd_1 rfl (hb hby at_13) (Nat.le_of_ble_eq_true rfl) (Nat.le_of_ble_eq_true rfl) (Nat.le_of_ble_eq_true rfl) (Nat.le_of_ble_eq_true rfl) ?_
    intro T16 X16 e16
    refine Go.istoreN X16 hx (hb hby at_16) rfl  #[.val (.int x0), .val (.int (2 : Int32)), .val (.ref a_CANCELLING), .val (.int (0 : Int32)), .unset, .unset] rfl ?_
    refine Go.iloadN X16 hx (hb hby at_17) rfl rfl  ?_
    refine Go.iconst X16 hx (hb hby at_18) rfl (3 : Int32) rfl ?_
    refine Go.icmpNo X16 hx (hb hby at_19) rfl (feq (by decide : ¬ ((2 : Int32) = (3 : Int32)))).1 ?_
    refine Go.iloadN X16 hx (hb hby at_22) rfl rfl  ?_
    refine Go.iconst X16 hx (hb hby at_23) rfl (4 : Int32) rfl ?_
    refine Go.icmpYes X16 hx (hb hby at_24) rfl 31 (feq (by decide : ¬ ((2 : Int32) = (4 : Int32)))).2 (by decide) (by decide) ?_
    refine Go.iconst X16 hx (hb hby at_31) rfl (0 : Int32) rfl ?_
    refine Go.istore X16 hx (hb hby at_32) rfl  #[.val (.int x0), .val (.int (2 : Int32)), .val (.ref a_CANCELLING), .val (.int (0 : Int32)), .val (.int (0 : Int32)), .unset] rfl ?_
    refine Go.aloadN X16 hx (hb hby at_34) rfl rfl rfl ?_
    refine Go.getS X16 hx hZ hown (host := "") (Or.inl (wd 5 rfl)) Via.refl e16 (S_OPEN.ext O0.2) (hb hby at_35) rfl ?_
    intro T17 X17 e17
    refine Go.pureV X17 hx hZ hown (wd 17 rfl) (wd 18 rfl) (notFace_of_selects (args := #[]) (mvT hZ (wd 20 rfl))) (wd 20 rfl) (wd 19 rfl) (wd 6 rfl) (wd 21 rfl) (by decide) [(.ref a_OPEN)] [] (E_CANCELLING.ext O0.2) (sp3_15 l Z a0 hw a_OPEN a_CLOSED a_CANCELLED a_CLOSING a_CANCELLING  Z.heap O0 FF) e17 rfl (by rw [hml]; rfl) pd_3 rfl (hb hby at_38) (Nat.le_of_ble_eq_true rfl) (Nat.le_of_ble_eq_true rfl) (Nat.le_of_ble_eq_true rfl) (Nat.le_of_ble_eq_true rfl) ?_
    intro T18 X18 e18
    refine Go.ifNo X18 hx (hb hby at_41) rfl ((if0 _ _).trans (teq (by decide : (0 : Int32) = (0 : Int32))).2) ?_
    refine Go.aloadN X18 hx (hb hby at_44) rfl rfl rfl ?_
    refine Go.getS X18 hx hZ hown (host := "") (Or.inl (wd 31 rfl)) Via.refl e18 (S_CLOSING.ext O0.2) (hb hby at_45) rfl ?_
    intro T19 X19 e19
    refine Go.pureV X19 hx hZ hown (wd 17 rfl) (wd 18 rfl) (notFace_of_selects (args := #[]) (mvT hZ (wd 20 rfl))) (wd 20 rfl) (wd 19 rfl) (wd 6 rfl) (wd 21 rfl) (by decide) [(.ref a_CLOSING)] [] (E_CANCELLING.ext O0.2) (sp3_16 l Z a0 hw a_OPEN a_CLOSED a_CANCELLED a_CLOSING a_CANCELLING  Z.heap O0 FF) e19 rfl (by rw [hml]; rfl) pd_3 rfl (hb hby at_48) (Nat.le_of_ble_eq_true rfl) (Nat.le_of_ble_eq_true rfl) (Nat.le_of_ble_eq_true rfl) (Nat.le_of_ble_eq_true rfl) ?_
    intro T20 X20 e20
    refine Go.ifNo X20 hx (hb hby at_51) rfl ((if0 _ _).trans (teq (by decide : (0 : Int32) = (0 : Int32))).2) ?_
    refine Go.aloadN X20 hx (hb hby at_54) rfl rfl rfl ?_
    refine Go.getS X20 hx hZ hown (host := "") (Or.inl (wd 35 rfl)) Via.refl e20 (S_CANCELLING.ext O0.2) (hb hby at_55) rfl ?_
    intro T21 X21 e21
    refine Go.pureV X21 hx hZ hown (wd 17 rfl) (wd 18 rfl) (notFace_of_selects (args := #[]) (mvT hZ (wd 20 rfl))) (wd 20 rfl) (wd 19 rfl) (wd 6 rfl) (wd 21 rfl) (by decide) [(.ref a_CANCELLING)] [] (E_CANCELLING.ext O0.2) (sp3_17 l Z a0 hw a_OPEN a_CLOSED a_CANCELLED a_CLOSING a_CANCELLING  Z.heap O0 FF) e21 rfl (by rw [hml]; rfl) pd_3 rfl (hb hby at_58) (Nat.le_of_ble_eq_true rfl) (Nat.le_of_ble_eq_true rfl) (Nat.le_of_ble_eq_true rfl) (Nat.le_of_ble_eq_true rfl) ?_
    intro T22 X22 e22
    refine Go.ifNo X22 hx (hb hby at_61) rfl ((if0 _ _).trans (teq (by decide : (0 : Int32) = (0 : Int32))).2) ?_
    refine Go.aloadN X22 hx (hb hby at_64) rfl rfl rfl ?_
    refine Go.getS X22 hx hZ hown (host := "") (Or.inl (wd 34 rfl)) Via.refl e22 (S_CLOSED.ext O0.2) (hb hby at_65) rfl ?_
    intro T23 X23 e23
    refine Go.pureV X23 hx hZ hown (wd 17 rfl) (wd 18 rfl) (notFace_of_selects (args := #[]) (mvT hZ (wd 20 rfl))) (wd 20 rfl) (wd 19 rfl) (wd 6 rfl) (wd 21 rfl) (by decide) [(.ref a_CLOSED)] [] (E_CANCELLING.ext O0.2) (sp3_18 l Z a0 hw a_OPEN a_CLOSED a_CANCELLED a_CLOSING a_CANCELLING  Z.heap O0 FF) e23 rfl (by rw [hml]; rfl) pd_3 rfl (hb hby at_68) (Nat.le_of_ble_eq_true rfl) (Nat.le_of_ble_eq_true rfl) (Nat.le_of_ble_eq_true rfl) (Nat.le_of_ble_eq_true rfl) ?_
    intro T24 X24 e24
    refine Go.ifNo X24 hx (hb hby at_71) rfl ((if0 _ _).trans (teq (by decide : (0 : Int32) = (0 : Int32))).2) ?_
    refine Go.aloadN X24 hx (hb hby at_74) rfl rfl rfl ?_
    refine Go.getS X24 hx hZ hown (host := "") (Or.inl (wd 38 rfl)) Via.refl e24 (S_CANCELLED.ext O0.2) (hb hby at_75) rfl ?_
    intro T25 X25 e25
    refine Go.pureV X25 hx hZ hown (wd 17 rfl) (wd 18 rfl) (notFace_of_selects (args := #[]) (mvT hZ (wd 20 rfl))) (wd 20 rfl) (wd 19 rfl) (wd 6 rfl) (wd 21 rfl) (by decide) [(.ref a_CANCELLED)] [] (E_CANCELLING.ext O0.2) (sp3_20 l Z a0 hw a_OPEN a_CLOSED a_CANCELLED a_CLOSING a_CANCELLING  Z.heap O0 FF) e25 rfl (by rw [hml]; rfl) pd_3 rfl (hb hby at_78) (Nat.le_of_ble_eq_true rfl) (Nat.le_of_ble_eq_true rfl) (Nat.le_of_ble_eq_true rfl) (Nat.le_of_ble_eq_true rfl) ?_
    intro T26 X26 e26
    refine Go.ifNo X26 hx (hb hby at_81) rfl ((if0 _ _).trans (feq (by decide : ¬ ((1 : Int32) = (0 : Int32)))).1) ?_
    refine Go.iconst X26 hx (hb hby at_84) rfl (1 : Int32) rfl ?_
    refine Go.goto X26 hx (hb hby at_85) rfl 89 (by decide) (by decide) ?_
    refine Go.istore X26 hx (hb hby at_89) rfl  #[.val (.int x0), .val (.int (2 : Int32)), .val (.ref a_CANCELLING), .val (.int (0 : Int32)), .val (.int (0 : Int32)), .val (.int (1 : Int32))] rfl ?_
    refine Go.iloadN X26 hx (hb hby at_91) rfl rfl  ?_
    refine Go.iload X26 hx (hb hby at_92) rfl rfl  ?_
    refine Go.icmpNo X26 hx (hb hby at_94) rfl (teq (by decide : (0 : Int32) = (0 : Int32))).2 ?_
    refine Go.iloadN X26 hx (hb hby at_97) rfl rfl  ?_
    refine Go.iload X26 hx (hb hby at_98) rfl rfl  ?_
    refine Go.ifYes X26 hx (hb hby at_100) rfl 107 ((if0 _ _).trans (feq (by decide : ¬ ((1 : Int32) = (0 : Int32)))).2) (by decide) (by decide) ?_
    refine Go.iconst X26 hx (hb hby at_107) rfl (0 : Int32) rfl ?_
    refine Go.icmpNo X26 hx (hb hby at_108) rfl (teq (by decide : (0 : Int32) = (0 : Int32))).2 ?_
    refine Go.iconst X26 hx (hb hby at_111) rfl (1 : Int32) rfl ?_
    refine Go.goto X26 hx (hb hby at_112) rfl 116 (by decide) (by decide) ?_
    exact Go.retZ X26 hx (z' := (1 : Int32)) hret hlk (hb hby at_116) rfl (by decide) ⟨by first | rfl | simp [], (Fr.nil _)⟩ (Nat.le_of_ble_eq_true rfl) (Nat.le_of_ble_eq_true rfl)
  · rw [hk]
    refine Go.istoreN X0 hx (hb hby at_6) rfl  #[.val (.int x0), .val (.int (3 : Int32)), .unset, .unset, .unset, .unset] rfl ?_
    refine Go.iloadN X0 hx (hb hby at_7) rfl rfl  ?_
    refine Go.pureS X0 hx hZ hown (wd 1 rfl) (wd 2 rfl) (wd 3 rfl) (wd 4 rfl) (by decide) [(.int (3 : Int32))] [] (sp1_22 l Z a0 hw a_OPEN a_CLOSED a_CANCELLED a_CLOSING a_CANCELLING  Z.heap O0 FF) e0 rfl (by rw [hml]; rfl) pd_0 rfl (hb hby at_8) (Nat.le_of_ble_eq_true rfl) (Nat.le_of_ble_eq_true rfl) (Nat.le_of_ble_eq_true rfl) (Nat.le_of_ble_eq_true rfl) ?_
    intro T27 X27 e27
    refine Go.astoreN X27 hx (hb hby at_11) rfl rfl #[.val (.int x0), .val (.int (3 : Int32)), .val (.ref a_CLOSED), .unset, .unset, .unset] rfl ?_
    refine Go.aloadN X27 hx (hb hby at_12) rfl rfl rfl ?_
    refine Go.pureV X27 hx hZ hown (wd 8 rfl) (wd 9 rfl) (notFace_of_selects (args := #[]) (mvT hZ (wd 11 rfl))) (wd 11 rfl) (wd 10 rfl) (wd 6 rfl) (wd 12 rfl) (by decide) [] [] (E_CLOSED.ext O0.2) (sp2_23 l Z a0 hw a_OPEN a_CLOSED a_CANCELLED a_CLOSING a_CANCELLING  Z.heap O0 FF) e27 rfl (by rw [hml]; rfl) pd_1 rfl (hb hby at_13) (Nat.le_of_ble_eq_true rfl) (Nat.le_of_ble_eq_true rfl) (Nat.le_of_ble_eq_true rfl) (Nat.le_of_ble_eq_true rfl) ?_
    intro T28 X28 e28
    refine Go.istoreN X28 hx (hb hby at_16) rfl  #[.val (.int x0), .val (.int (3 : Int32)), .val (.ref a_CLOSED), .val (.int (1 : Int32)), .unset, .unset] rfl ?_
    refine Go.iloadN X28 hx (hb hby at_17) rfl rfl  ?_
    refine Go.iconst X28 hx (hb hby at_18) rfl (3 : Int32) rfl ?_
    refine Go.icmpYes X28 hx (hb hby at_19) rfl 27 (teq (by decide : (3 : Int32) = (3 : Int32))).1 (by decide) (by decide) ?_
    refine Go.iconst X28 hx (hb hby at_27) rfl (1 : Int32) rfl ?_
    refine Go.goto X28 hx (hb hby at_28) rfl 32 (by decide) (by decide) ?_
    refine Go.istore X28 hx (hb hby at_32) rfl  #[.val (.int x0), .val (.int (3 : Int32)), .val (.ref a_CLOSED), .val (.int (1 : Int32)), .val (.int (1 : Int32)), .unset] rfl ?_
    refine Go.aloadN X28 hx (hb hby at_34) rfl rfl rfl ?_
    refine Go.getS X28 hx hZ hown (host := "") (Or.inl (wd 5 rfl)) Via.refl e28 (S_OPEN.ext O0.2) (hb hby at_35) rfl ?_
    intro T29 X29 e29
    refine Go.pureV X29 hx hZ hown (wd 17 rfl) (wd 18 rfl) (notFace_of_selects (args := #[]) (mvT hZ (wd 20 rfl))) (wd 20 rfl) (wd 19 rfl) (wd 6 rfl) (wd 21 rfl) (by decide) [(.ref a_OPEN)] [] (E_CLOSED.ext O0.2) (sp3_24 l Z a0 hw a_OPEN a_CLOSED a_CANCELLED a_CLOSING a_CANCELLING  Z.heap O0 FF) e29 rfl (by rw [hml]; rfl) pd_3 rfl (hb hby at_38) (Nat.le_of_ble_eq_true rfl) (Nat.le_of_ble_eq_true rfl) (Nat.le_of_ble_eq_true rfl) (Nat.le_of_ble_eq_true rfl) ?_
    intro T30 X30 e30
    refine Go.ifNo X30 hx (hb hby at_41) rfl ((if0 _ _).trans (teq (by decide : (0 : Int32) = (0 : Int32))).2) ?_
    refine Go.aloadN X30 hx (hb hby at_44) rfl rfl rfl ?_
    refine Go.getS X30 hx hZ hown (host := "") (Or.inl (wd 31 rfl)) Via.refl e30 (S_CLOSING.ext O0.2) (hb hby at_45) rfl ?_
    intro T31 X31 e31
    refine Go.pureV X31 hx hZ hown (wd 17 rfl) (wd 18 rfl) (notFace_of_selects (args := #[]) (mvT hZ (wd 20 rfl))) (wd 20 rfl) (wd 19 rfl) (wd 6 rfl) (wd 21 rfl) (by decide) [(.ref a_CLOSING)] [] (E_CLOSED.ext O0.2) (sp3_25 l Z a0 hw a_OPEN a_CLOSED a_CANCELLED a_CLOSING a_CANCELLING  Z.heap O0 FF) e31 rfl (by rw [hml]; rfl) pd_3 rfl (hb hby at_48) (Nat.le_of_ble_eq_true rfl) (Nat.le_of_ble_eq_true rfl) (Nat.le_of_ble_eq_true rfl) (Nat.le_of_ble_eq_true rfl) ?_
    intro T32 X32 e32
    refine Go.ifNo X32 hx (hb hby at_51) rfl ((if0 _ _).trans (teq (by decide : (0 : Int32) = (0 : Int32))).2) ?_
    refine Go.aloadN X32 hx (hb hby at_54) rfl rfl rfl ?_
    refine Go.getS X32 hx hZ hown (host := "") (Or.inl (wd 35 rfl)) Via.refl e32 (S_CANCELLING.ext O0.2) (hb hby at_55) rfl ?_
    intro T33 X33 e33
    refine Go.pureV X33 hx hZ hown (wd 17 rfl) (wd 18 rfl) (notFace_of_selects (args := #[]) (mvT hZ (wd 20 rfl))) (wd 20 rfl) (wd 19 rfl) (wd 6 rfl) (wd 21 rfl) (by decide) [(.ref a_CANCELLING)] [] (E_CLOSED.ext O0.2) (sp3_26 l Z a0 hw a_OPEN a_CLOSED a_CANCELLED a_CLOSING a_CANCELLING  Z.heap O0 FF) e33 rfl (by rw [hml]; rfl) pd_3 rfl (hb hby at_58) (Nat.le_of_ble_eq_true rfl) (Nat.le_of_ble_eq_true rfl) (Nat.le_of_ble_eq_true rfl) (Nat.le_of_ble_eq_true rfl) ?_
    intro T34 X34 e34
    refine Go.ifNo X34 hx (hb hby at_61) rfl ((if0 _ _).trans (teq (by decide : (0 : Int32) = (0 : Int32))).2) ?_
    refine Go.aloadN X34 hx (hb hby at_64) rfl rfl rfl ?_
    refine Go.getS X34 hx hZ hown (host := "") (Or.inl (wd 34 rfl)) Via.refl e34 (S_CLOSED.ext O0.2) (hb hby at_65) rfl ?_
    intro T35 X35 e35
    refine Go.pureV X35 hx hZ hown (wd 17 rfl) (wd 18 rfl) (notFace_of_selects (args := #[]) (mvT hZ (wd 20 rfl))) (wd 20 rfl) (wd 19 rfl) (wd 6 rfl) (wd 21 rfl) (by decide) [(.ref a_CLOSED)] [] (E_CLOSED.ext O0.2) (sp3_27 l Z a0 hw a_OPEN a_CLOSED a_CANCELLED a_CLOSING a_CANCELLING  Z.heap O0 FF) e35 rfl (by rw [hml]; rfl) pd_3 rfl (hb hby at_68) (Nat.le_of_ble_eq_true rfl) (Nat.le_of_ble_eq_true rfl) (Nat.le_of_ble_eq_true rfl) (Nat.le_of_ble_eq_true rfl) ?_
    intro T36 X36 e36
    refine Go.ifNo X36 hx (hb hby at_71) rfl ((if0 _ _).trans (teq (by decide : (0 : Int32) = (0 : Int32))).2) ?_
    refine Go.aloadN X36 hx (hb hby at_74) rfl rfl rfl ?_
    refine Go.getS X36 hx hZ hown (host := "") (Or.inl (wd 38 rfl)) Via.refl e36 (S_CANCELLED.ext O0.2) (hb hby at_75) rfl ?_
    intro T37 X37 e37
    refine Go.pureV X37 hx hZ hown (wd 17 rfl) (wd 18 rfl) (notFace_of_selects (args := #[]) (mvT hZ (wd 20 rfl))) (wd 20 rfl) (wd 19 rfl) (wd 6 rfl) (wd 21 rfl) (by decide) [(.ref a_CANCELLED)] [] (E_CLOSED.ext O0.2) (sp3_28 l Z a0 hw a_OPEN a_CLOSED a_CANCELLED a_CLOSING a_CANCELLING  Z.heap O0 FF) e37 rfl (by rw [hml]; rfl) pd_3 rfl (hb hby at_78) (Nat.le_of_ble_eq_true rfl) (Nat.le_of_ble_eq_true rfl) (Nat.le_of_ble_eq_true rfl) (Nat.le_of_ble_eq_true rfl) ?_
    intro T38 X38 e38
    refine Go.ifYes X38 hx (hb hby at_81) rfl 88 ((if0 _ _).trans (teq (by decide : (0 : Int32) = (0 : Int32))).1) (by decide) (by decide) ?_
    refine Go.iconst X38 hx (hb hby at_88) rfl (0 : Int32) rfl ?_
    refine Go.istore X38 hx (hb hby at_89) rfl  #[.val (.int x0), .val (.int (3 : Int32)), .val (.ref a_CLOSED), .val (.int (1 : Int32)), .val (.int (1 : Int32)), .val (.int (0 : Int32))] rfl ?_
    refine Go.iloadN X38 hx (hb hby at_91) rfl rfl  ?_
    refine Go.iload X38 hx (hb hby at_92) rfl rfl  ?_
    refine Go.icmpNo X38 hx (hb hby at_94) rfl (teq (by decide : (1 : Int32) = (1 : Int32))).2 ?_
    refine Go.iloadN X38 hx (hb hby at_97) rfl rfl  ?_
    refine Go.iload X38 hx (hb hby at_98) rfl rfl  ?_
    refine Go.ifNo X38 hx (hb hby at_100) rfl ((if0 _ _).trans (teq (by decide : (0 : Int32) = (0 : Int32))).2) ?_
    refine Go.iconst X38 hx (hb hby at_103) rfl (1 : Int32) rfl ?_
    refine Go.goto X38 hx (hb hby at_104) rfl 108 (by decide) (by decide) ?_
    refine Go.icmpNo X38 hx (hb hby at_108) rfl (teq (by decide : (1 : Int32) = (1 : Int32))).2 ?_
    refine Go.iconst X38 hx (hb hby at_111) rfl (1 : Int32) rfl ?_
    refine Go.goto X38 hx (hb hby at_112) rfl 116 (by decide) (by decide) ?_
    exact Go.retZ X38 hx (z' := (1 : Int32)) hret hlk (hb hby at_116) rfl (by decide) ⟨by first | rfl | simp [], (Fr.nil _)⟩ (Nat.le_of_ble_eq_true rfl) (Nat.le_of_ble_eq_true rfl)
  · rw [hk]
    refine Go.istoreN X0 hx (hb hby at_6) rfl  #[.val (.int x0), .val (.int (4 : Int32)), .unset, .unset, .unset, .unset] rfl ?_
    refine Go.iloadN X0 hx (hb hby at_7) rfl rfl  ?_
    refine Go.pureS X0 hx hZ hown (wd 1 rfl) (wd 2 rfl) (wd 3 rfl) (wd 4 rfl) (by decide) [(.int (4 : Int32))] [] (sp1_29 l Z a0 hw a_OPEN a_CLOSED a_CANCELLED a_CLOSING a_CANCELLING  Z.heap O0 FF) e0 rfl (by rw [hml]; rfl) pd_0 rfl (hb hby at_8) (Nat.le_of_ble_eq_true rfl) (Nat.le_of_ble_eq_true rfl) (Nat.le_of_ble_eq_true rfl) (Nat.le_of_ble_eq_true rfl) ?_
    intro T39 X39 e39
    refine Go.astoreN X39 hx (hb hby at_11) rfl rfl #[.val (.int x0), .val (.int (4 : Int32)), .val (.ref a_CANCELLED), .unset, .unset, .unset] rfl ?_
    refine Go.aloadN X39 hx (hb hby at_12) rfl rfl rfl ?_
    refine Go.pureV X39 hx hZ hown (wd 8 rfl) (wd 9 rfl) (notFace_of_selects (args := #[]) (mvT hZ (wd 11 rfl))) (wd 11 rfl) (wd 10 rfl) (wd 6 rfl) (wd 12 rfl) (by decide) [] [] (E_CANCELLED.ext O0.2) (sp2_30 l Z a0 hw a_OPEN a_CLOSED a_CANCELLED a_CLOSING a_CANCELLING  Z.heap O0 FF) e39 rfl (by rw [hml]; rfl) pd_1 rfl (hb hby at_13) (Nat.le_of_ble_eq_true rfl) (Nat.le_of_ble_eq_true rfl) (Nat.le_of_ble_eq_true rfl) (Nat.le_of_ble_eq_true rfl) ?_
    intro T40 X40 e40
    refine Go.istoreN X40 hx (hb hby at_16) rfl  #[.val (.int x0), .val (.int (4 : Int32)), .val (.ref a_CANCELLED), .val (.int (1 : Int32)), .unset, .unset] rfl ?_
    refine Go.iloadN X40 hx (hb hby at_17) rfl rfl  ?_
    refine Go.iconst X40 hx (hb hby at_18) rfl (3 : Int32) rfl ?_
    refine Go.icmpNo X40 hx (hb hby at_19) rfl (feq (by decide : ¬ ((4 : Int32) = (3 : Int32)))).1 ?_
    refine Go.iloadN X40 hx (hb hby at_22) rfl rfl  ?_
    refine Go.iconst X40 hx (hb hby at_23) rfl (4 : Int32) rfl ?_
    refine Go.icmpNo X40 hx (hb hby at_24) rfl (teq (by decide : (4 : Int32) = (4 : Int32))).2 ?_
    refine Go.iconst X40 hx (hb hby at_27) rfl (1 : Int32) rfl ?_
    refine Go.goto X40 hx (hb hby at_28) rfl 32 (by decide) (by decide) ?_
    refine Go.istore X40 hx (hb hby at_32) rfl  #[.val (.int x0), .val (.int (4 : Int32)), .val (.ref a_CANCELLED), .val (.int (1 : Int32)), .val (.int (1 : Int32)), .unset] rfl ?_
    refine Go.aloadN X40 hx (hb hby at_34) rfl rfl rfl ?_
    refine Go.getS X40 hx hZ hown (host := "") (Or.inl (wd 5 rfl)) Via.refl e40 (S_OPEN.ext O0.2) (hb hby at_35) rfl ?_
    intro T41 X41 e41
    refine Go.pureV X41 hx hZ hown (wd 17 rfl) (wd 18 rfl) (notFace_of_selects (args := #[]) (mvT hZ (wd 20 rfl))) (wd 20 rfl) (wd 19 rfl) (wd 6 rfl) (wd 21 rfl) (by decide) [(.ref a_OPEN)] [] (E_CANCELLED.ext O0.2) (sp3_31 l Z a0 hw a_OPEN a_CLOSED a_CANCELLED a_CLOSING a_CANCELLING  Z.heap O0 FF) e41 rfl (by rw [hml]; rfl) pd_3 rfl (hb hby at_38) (Nat.le_of_ble_eq_true rfl) (Nat.le_of_ble_eq_true rfl) (Nat.le_of_ble_eq_true rfl) (Nat.le_of_ble_eq_true rfl) ?_
    intro T42 X42 e42
    refine Go.ifNo X42 hx (hb hby at_41) rfl ((if0 _ _).trans (teq (by decide : (0 : Int32) = (0 : Int32))).2) ?_
    refine Go.aloadN X42 hx (hb hby at_44) rfl rfl rfl ?_
    refine Go.getS X42 hx hZ hown (host := "") (Or.inl (wd 31 rfl)) Via.refl e42 (S_CLOSING.ext O0.2) (hb hby at_45) rfl ?_
    intro T43 X43 e43
    refine Go.pureV X43 hx hZ hown (wd 17 rfl) (wd 18 rfl) (notFace_of_selects (args := #[]) (mvT hZ (wd 20 rfl))) (wd 20 rfl) (wd 19 rfl) (wd 6 rfl) (wd 21 rfl) (by decide) [(.ref a_CLOSING)] [] (E_CANCELLED.ext O0.2) (sp3_32 l Z a0 hw a_OPEN a_CLOSED a_CANCELLED a_CLOSING a_CANCELLING  Z.heap O0 FF) e43 rfl (by rw [hml]; rfl) pd_3 rfl (hb hby at_48) (Nat.le_of_ble_eq_true rfl) (Nat.le_of_ble_eq_true rfl) (Nat.le_of_ble_eq_true rfl) (Nat.le_of_ble_eq_true rfl) ?_
    intro T44 X44 e44
    refine Go.ifNo X44 hx (hb hby at_51) rfl ((if0 _ _).trans (teq (by decide : (0 : Int32) = (0 : Int32))).2) ?_
    refine Go.aloadN X44 hx (hb hby at_54) rfl rfl rfl ?_
    refine Go.getS X44 hx hZ hown (host := "") (Or.inl (wd 35 rfl)) Via.refl e44 (S_CANCELLING.ext O0.2) (hb hby at_55) rfl ?_
    intro T45 X45 e45
    refine Go.pureV X45 hx hZ hown (wd 17 rfl) (wd 18 rfl) (notFace_of_selects (args := #[]) (mvT hZ (wd 20 rfl))) (wd 20 rfl) (wd 19 rfl) (wd 6 rfl) (wd 21 rfl) (by decide) [(.ref a_CANCELLING)] [] (E_CANCELLED.ext O0.2) (sp3_33 l Z a0 hw a_OPEN a_CLOSED a_CANCELLED a_CLOSING a_CANCELLING  Z.heap O0 FF) e45 rfl (by rw [hml]; rfl) pd_3 rfl (hb hby at_58) (Nat.le_of_ble_eq_true rfl) (Nat.le_of_ble_eq_true rfl) (Nat.le_of_ble_eq_true rfl) (Nat.le_of_ble_eq_true rfl) ?_
    intro T46 X46 e46
    refine Go.ifNo X46 hx (hb hby at_61) rfl ((if0 _ _).trans (teq (by decide : (0 : Int32) = (0 : Int32))).2) ?_
    refine Go.aloadN X46 hx (hb hby at_64) rfl rfl rfl ?_
    refine Go.getS X46 hx hZ hown (host := "") (Or.inl (wd 34 rfl)) Via.refl e46 (S_CLOSED.ext O0.2) (hb hby at_65) rfl ?_
    intro T47 X47 e47
    refine Go.pureV X47 hx hZ hown (wd 17 rfl) (wd 18 rfl) (notFace_of_selects (args := #[]) (mvT hZ (wd 20 rfl))) (wd 20 rfl) (wd 19 rfl) (wd 6 rfl) (wd 21 rfl) (by decide) [(.ref a_CLOSED)] [] (E_CANCELLED.ext O0.2) (sp3_34 l Z a0 hw a_OPEN a_CLOSED a_CANCELLED a_CLOSING a_CANCELLING  Z.heap O0 FF) e47 rfl (by rw [hml]; rfl) pd_3 rfl (hb hby at_68) (Nat.le_of_ble_eq_true rfl) (Nat.le_of_ble_eq_true rfl) (Nat.le_of_ble_eq_true rfl) (Nat.le_of_ble_eq_true rfl) ?_
    intro T48 X48 e48
    refine Go.ifNo X48 hx (hb hby at_71) rfl ((if0 _ _).trans (teq (by decide : (0 : Int32) = (0 : Int32))).2) ?_
    refine Go.aloadN X48 hx (hb hby at_74) rfl rfl rfl ?_
    refine Go.getS X48 hx hZ hown (host := "") (Or.inl (wd 38 rfl)) Via.refl e48 (S_CANCELLED.ext O0.2) (hb hby at_75) rfl ?_
    intro T49 X49 e49
    refine Go.pureV X49 hx hZ hown (wd 17 rfl) (wd 18 rfl) (notFace_of_selects (args := #[]) (mvT hZ (wd 20 rfl))) (wd 20 rfl) (wd 19 rfl) (wd 6 rfl) (wd 21 rfl) (by decide) [(.ref a_CANCELLED)] [] (E_CANCELLED.ext O0.2) (sp3_35 l Z a0 hw a_OPEN a_CLOSED a_CANCELLED a_CLOSING a_CANCELLING  Z.heap O0 FF) e49 rfl (by rw [hml]; rfl) pd_3 rfl (hb hby at_78) (Nat.le_of_ble_eq_true rfl) (Nat.le_of_ble_eq_true rfl) (Nat.le_of_ble_eq_true rfl) (Nat.le_of_ble_eq_true rfl) ?_
    intro T50 X50 e50
    refine Go.ifYes X50 hx (hb hby at_81) rfl 88 ((if0 _ _).trans (teq (by decide : (0 : Int32) = (0 : Int32))).1) (by decide) (by decide) ?_
    refine Go.iconst X50 hx (hb hby at_88) rfl (0 : Int32) rfl ?_
    refine Go.istore X50 hx (hb hby at_89) rfl  #[.val (.int x0), .val (.int (4 : Int32)), .val (.ref a_CANCELLED), .val (.int (1 : Int32)), .val (.int (1 : Int32)), .val (.int (0 : Int32))] rfl ?_
    refine Go.iloadN X50 hx (hb hby at_91) rfl rfl  ?_
    refine Go.iload X50 hx (hb hby at_92) rfl rfl  ?_
    refine Go.icmpNo X50 hx (hb hby at_94) rfl (teq (by decide : (1 : Int32) = (1 : Int32))).2 ?_
    refine Go.iloadN X50 hx (hb hby at_97) rfl rfl  ?_
    refine Go.iload X50 hx (hb hby at_98) rfl rfl  ?_
    refine Go.ifNo X50 hx (hb hby at_100) rfl ((if0 _ _).trans (teq (by decide : (0 : Int32) = (0 : Int32))).2) ?_
    refine Go.iconst X50 hx (hb hby at_103) rfl (1 : Int32) rfl ?_
    refine Go.goto X50 hx (hb hby at_104) rfl 108 (by decide) (by decide) ?_
    refine Go.icmpNo X50 hx (hb hby at_108) rfl (teq (by decide : (1 : Int32) = (1 : Int32))).2 ?_
    refine Go.iconst X50 hx (hb hby at_111) rfl (1 : Int32) rfl ?_
    refine Go.goto X50 hx (hb hby at_112) rfl 116 (by decide) (by decide) ?_
    exact Go.retZ X50 hx (z' := (1 : Int32)) hret hlk (hb hby at_116) rfl (by decide) ⟨by first | rfl | simp [], (Fr.nil _)⟩ (Nat.le_of_ble_eq_true rfl) (Nat.le_of_ble_eq_true rfl)
set_option maxRecDepth 65536 in
set_option maxHeartbeats 40000000 in
theorem comes_1 {Post : Tables → Env → Array Value → State → Outcome → State → Prop} (hpost : ∀ tb e args s v u, (limb_1_1.after args s (.returned v) u = true ∧ limb_1_2.after args s (.returned v) u = true ∧ True) → FrameEnd s (.returned v) u (Jvm.fieldLocs frame_1_writes args s ++ Jvm.arrayLocs frame_1_arrays args s ++ Jvm.staticLocs frame_1_statics s) 0 0 → Post tb e args s (.returned v) u) :
    ArmFor flags0 classFile x code maxLocals ret World_1 tables_1 room_1 Calls_1 rest_1 Pre_1 Post := by
  intro l hfl _ _ p e ha hc hk s m args below hf hA hF happ hP
  obtain ⟨hcalls, hrest, hpre⟩ := hP
  obtain ⟨-, -, -, hnamed, -, -, -, hat⟩ := (Spec.applies_iff hf).mp happ
  obtain ⟨hg, hn⟩ := and_e (Cond.before_iff.mp (show (Jvm.Cond.and given_1 narrow_1).before args s = true from hpre))
  obtain ⟨gi0, gi1⟩ := and_e hg
  obtain ⟨w0, rfl⟩ : ∃ w0 : Value, args = #[w0] := by
    have hs : args.size = 1 := by simpa [Cond.value, given_1] using gi0
    obtain ⟨L⟩ := args
    match L, hs with
    | [w0], _ => exact ⟨w0, rfl⟩
  have hw := fun d (hd : d ∈ tables_1) => atoms_spec (ws := Jvm.Cond.code x code maxLocals ret :: tables_1) hat d (List.mem_cons_of_mem _ hd)
  have wd : ∀ {d : Jvm.Cond} (i : Nat), tables_1[i]? = some d → d.before _ s = true := fun i q => hw _ (List.mem_of_getElem? q)
  have hfit : Fit s := fun {y c} hc i hi => by
    obtain ⟨ha, rfl⟩ := Array.getElem?_eq_some_iff.mp hc
    have q := List.all_eq_true.mp ((Array.all_eq_true_iff_forall_mem.mp hF) _ (Array.getElem_mem ha)) i (List.mem_range.mpr hi)
    simpa [Array.getElem?_eq_getElem hi] using q
  obtain ⟨i0, ei0⟩ := is_v gi1
  obtain rfl : w0 = (.int i0) := Option.some.inj ei0
  obtain ⟨g1, g2⟩ := and_e hn
  obtain ⟨a_OPEN, ev_OPEN⟩ := exa_v g1
  have S_OPEN : Sta s s.heap "com/example/nursery/nursery/NurseryState" "OPEN" "Lcom/example/nursery/nursery/NurseryState;" (.ref a_OPEN) := Sta.start ev_OPEN (Or.inr ⟨(wd 6 rfl), (wd 7 rfl)⟩)
  have E_OPEN : Exa s s.heap a_OPEN "com/example/nursery/nursery/NurseryState" := Exa.start ev_OPEN g1
  obtain ⟨g3, g4⟩ := and_e g2
  obtain ⟨a_CLOSED, ev_CLOSED⟩ := exa_v g3
  have S_CLOSED : Sta s s.heap "com/example/nursery/nursery/NurseryState" "CLOSED" "Lcom/example/nursery/nursery/NurseryState;" (.ref a_CLOSED) := Sta.start ev_CLOSED (Or.inr ⟨(wd 6 rfl), (wd 14 rfl)⟩)
  have E_CLOSED : Exa s s.heap a_CLOSED "com/example/nursery/nursery/NurseryState" := Exa.start ev_CLOSED g3
  obtain ⟨g5, g6⟩ := and_e g4
  have ev_OPEN_ordinal := own_eqv g5 (v := (.int (0 : Int32))) rfl
  have F_OPEN_ordinal : Fld s s.heap a_OPEN "java/lang/Enum" "ordinal" "I" (.int (0 : Int32)) := Fld.start ((fld_at ev_OPEN).symm.trans ev_OPEN_ordinal)
  obtain ⟨g7, g8⟩ := and_e g6
  have ev_CLOSED_ordinal := own_eqv g7 (v := (.int (3 : Int32))) rfl
  have F_CLOSED_ordinal : Fld s s.heap a_CLOSED "java/lang/Enum" "ordinal" "I" (.int (3 : Int32)) := Fld.start ((fld_at ev_CLOSED).symm.trans ev_CLOSED_ordinal)
  obtain ⟨g9, g10⟩ := and_e g8
  obtain ⟨a_CANCELLED, ev_CANCELLED⟩ := exa_v g9
  have S_CANCELLED : Sta s s.heap "com/example/nursery/nursery/NurseryState" "CANCELLED" "Lcom/example/nursery/nursery/NurseryState;" (.ref a_CANCELLED) := Sta.start ev_CANCELLED (Or.inr ⟨(wd 6 rfl), (wd 16 rfl)⟩)
  have E_CANCELLED : Exa s s.heap a_CANCELLED "com/example/nursery/nursery/NurseryState" := Exa.start ev_CANCELLED g9
  obtain ⟨g11, g12⟩ := and_e g10
  have ev_CANCELLED_ordinal := own_eqv g11 (v := (.int (4 : Int32))) rfl
  have F_CANCELLED_ordinal : Fld s s.heap a_CANCELLED "java/lang/Enum" "ordinal" "I" (.int (4 : Int32)) := Fld.start ((fld_at ev_CANCELLED).symm.trans ev_CANCELLED_ordinal)
  obtain ⟨g13, g14⟩ := and_e g12
  obtain ⟨a_CLOSING, ev_CLOSING⟩ := exa_v g13
  have S_CLOSING : Sta s s.heap "com/example/nursery/nursery/NurseryState" "CLOSING" "Lcom/example/nursery/nursery/NurseryState;" (.ref a_CLOSING) := Sta.start ev_CLOSING (Or.inr ⟨(wd 6 rfl), (wd 32 rfl)⟩)
  have E_CLOSING : Exa s s.heap a_CLOSING "com/example/nursery/nursery/NurseryState" := Exa.start ev_CLOSING g13
  obtain ⟨g15, g16⟩ := and_e g14
  have ev_CLOSING_ordinal := own_eqv g15 (v := (.int (1 : Int32))) rfl
  have F_CLOSING_ordinal : Fld s s.heap a_CLOSING "java/lang/Enum" "ordinal" "I" (.int (1 : Int32)) := Fld.start ((fld_at ev_CLOSING).symm.trans ev_CLOSING_ordinal)
  obtain ⟨g17, g18⟩ := and_e g16
  obtain ⟨a_CANCELLING, ev_CANCELLING⟩ := exa_v g17
  have S_CANCELLING : Sta s s.heap "com/example/nursery/nursery/NurseryState" "CANCELLING" "Lcom/example/nursery/nursery/NurseryState;" (.ref a_CANCELLING) := Sta.start ev_CANCELLING (Or.inr ⟨(wd 6 rfl), (wd 36 rfl)⟩)
  have E_CANCELLING : Exa s s.heap a_CANCELLING "com/example/nursery/nursery/NurseryState" := Exa.start ev_CANCELLING g17
  have ev_CANCELLING_ordinal := own_eqv g18 (v := (.int (2 : Int32))) rfl
  have F_CANCELLING_ordinal : Fld s s.heap a_CANCELLING "java/lang/Enum" "ordinal" "I" (.int (2 : Int32)) := Fld.start ((fld_at ev_CANCELLING).symm.trans ev_CANCELLING_ordinal)
  have ne_OPEN_CLOSING : a_OPEN ≠ a_CLOSING := Fld.ne F_OPEN_ordinal F_CLOSING_ordinal (by decide)
  have ne_OPEN_CANCELLING : a_OPEN ≠ a_CANCELLING := Fld.ne F_OPEN_ordinal F_CANCELLING_ordinal (by decide)
  have ne_OPEN_CLOSED : a_OPEN ≠ a_CLOSED := Fld.ne F_OPEN_ordinal F_CLOSED_ordinal (by decide)
  have ne_OPEN_CANCELLED : a_OPEN ≠ a_CANCELLED := Fld.ne F_OPEN_ordinal F_CANCELLED_ordinal (by decide)
  have ne_CLOSING_CANCELLING : a_CLOSING ≠ a_CANCELLING := Fld.ne F_CLOSING_ordinal F_CANCELLING_ordinal (by decide)
  have ne_CLOSING_CLOSED : a_CLOSING ≠ a_CLOSED := Fld.ne F_CLOSING_ordinal F_CLOSED_ordinal (by decide)
  have ne_CLOSING_CANCELLED : a_CLOSING ≠ a_CANCELLED := Fld.ne F_CLOSING_ordinal F_CANCELLED_ordinal (by decide)
  have ne_CANCELLING_CLOSED : a_CANCELLING ≠ a_CLOSED := Fld.ne F_CANCELLING_ordinal F_CLOSED_ordinal (by decide)
  have ne_CANCELLING_CANCELLED : a_CANCELLING ≠ a_CANCELLED := Fld.ne F_CANCELLING_ordinal F_CANCELLED_ordinal (by decide)
  have ne_CLOSED_CANCELLED : a_CLOSED ≠ a_CANCELLED := Fld.ne F_CLOSED_ordinal F_CANCELLED_ordinal (by decide)
  obtain ⟨n, o, h1, h2, h3, _, L, rfl, ⟨rfl, N⟩, hq⟩ := rm0 l s _ hw i0 a_OPEN a_CLOSED a_CANCELLED a_CLOSING a_CANCELLING ⟨S_OPEN, E_OPEN, S_CLOSED, E_CLOSED, F_OPEN_ordinal, F_CLOSED_ordinal, S_CANCELLED, E_CANCELLED, F_CANCELLED_ordinal, S_CLOSING, E_CLOSING, F_CLOSING_ordinal, S_CANCELLING, E_CANCELLING, F_CANCELLING_ordinal, ne_OPEN_CLOSING, ne_OPEN_CANCELLING, ne_OPEN_CLOSED, ne_OPEN_CANCELLED, ne_CLOSING_CANCELLING, ne_CLOSING_CLOSED, ne_CLOSING_CANCELLED, ne_CANCELLING_CLOSED, ne_CANCELLING_CANCELLED, ne_CLOSED_CANCELLED⟩ tables_1 p e ha hc hk s m _ below hf ((Spec.applies_iff_loose hf).mp happ).1 ⟨rfl, State.Warmed39.refl s, rfl⟩ trivial
  refine ⟨n, _, h1, h2, h3, hpost _ _ _ _ _ _ ⟨Cond.after_iff.mpr rfl, Cond.after_iff.mpr (eq_i res_at (Term.int_eval (1)) rfl), trivial⟩ ⟨hq.1, hq.2.1, (hq.2.2.sift fun y hy => Or.inr (N y hy)).mono (by decide) (by decide)⟩⟩
theorem main_1_1 : Claimed_1_1 := comes_1 fun _ _ _ _ _ _ h hF => ⟨h.1, hF⟩
theorem main_1_2 : Claimed_1_2 := comes_1 fun _ _ _ _ _ _ h hF => ⟨h.2.1, hF⟩
end Jvm.Pilot.@@N@@
namespace Jvm.Pilot.@@N@@
open Jvm Jvm.ClassFile Sem Op Lib Jvm.Free Jvm.Stand Jvm.Pilot.@@N@@.Jvm.D
/-! MADE BY PROGRAM (witnessworld.py) out of the Statement's table words and the real class files: 12 classes; the members and pool entries that the words name. The judged class is class 1, her method 1. -/
namespace start1
open Jvm.ClassFile
def u (s : String) : CpInfo := .utf8 (stringToUtf16 s)
/-- a pool by its gaps: so many unusable entries, then the entry; so many at the end -/
def gap : Nat → List CpInfo → List CpInfo
  | 0, r => r
  | n + 1, r => .unusable :: gap n r
def poolList (es : List (Nat × CpInfo)) (last : Nat) : List CpInfo := es.foldr (fun e r => gap e.1 (e.2 :: r)) (gap last [])
def pool (es : List (Nat × CpInfo)) (last : Nat) : Array CpInfo := ⟨poolList es last⟩
def fileOf (pool : Array CpInfo) (this : Nat) (attrs : Array Attribute := #[]) (ms : Array MethodInfo := #[]) (fl : Nat := 33) (sup : Nat := 0) (ifs : Array Nat := #[]) (fds : Array FieldInfo := #[]) : ClassFile where
  minorVersion := 0
  majorVersion := 65
  constantPool := pool
  accessFlags := fl
  thisClass := this
  superClass := sup
  interfaces := ifs
  fields := fds
  methods := ms
  attributes := attrs
def plain (name : String) (sup : Option ClassId) : Class where
  name := name
  kind := .ordinary
  loader := none
  accessFlags := 33
  super := sup
  interfaces := #[]
  cf := none
  fields := #[]
  methods := #[]
  instanceTypes := #[]
  staticTypes := #[]
  resolved := #[]
  callSites := []
  init := .initialized
  statics := none
  mirror := none

def pool0 : Array CpInfo := pool [(5, u "<init>"), (0, u "()V"), (1, .class_ 10), (1, u "java/lang/Object")] 113

def k0m0 : Method := { name := "<init>", desc := "()V", sig := { parameters := [], returnType := none }, accessFlags := 1, code := none }
/-- java/lang/Object -/
def k0 : Class := { plain "java/lang/Object" none with
  accessFlags := 33
  interfaces := #[]
  cf := some (fileOf pool0 8 #[] #[{ accessFlags := 1, nameIndex := 5, descriptorIndex := 6, attributes := #[] }] 33 0 #[] #[])
  fields := #[]
  methods := #[k0m0]
  instanceTypes := #[]
  staticTypes := #[]
  resolved := Array.replicate 124 none
  statics := none }

def pool1 : Array CpInfo := pool [(2, .class_ 4), (1, u "java/lang/Object"), (0, u "<init>"), (0, u "()V"), (0, .integer 2147483647), (0, .methodref 9 10), (0, .class_ 11), (0, .nameAndType 12 13), (0, u "com/example/nursery/nursery/NurseryStateIsTerminalPinLaw"), (0, u "pick"), (0, u "(I)Lcom/example/nursery/nursery/NurseryState;"), (0, .methodref 15 16), (0, .class_ 17), (0, .nameAndType 18 19), (0, u "com/example/nursery/nursery/NurseryState"), (0, u "isTerminal"), (0, u "()Z"), (0, .fieldref 15 21), (0, .nameAndType 22 23), (0, u "OPEN"), (0, u "Lcom/example/nursery/nursery/NurseryState;"), (0, .methodref 15 25), (0, .nameAndType 26 27), (0, u "canMoveTo"), (0, u "(Lcom/example/nursery/nursery/NurseryState;)Z"), (0, .fieldref 15 29), (0, .nameAndType 30 23), (0, u "CLOSING"), (0, .fieldref 15 32), (0, .nameAndType 33 23), (0, u "CANCELLING"), (0, .fieldref 15 35), (0, .nameAndType 36 23), (0, u "CLOSED"), (0, .fieldref 15 38), (0, .nameAndType 39 23), (0, u "CANCELLED"), (2, u "law"), (0, u "(I)Z")] 3

def k1m0 : Method := { name := "<init>", desc := "()V", sig := { parameters := [], returnType := none }, accessFlags := 1, code := none }
def k1c1 : Code := { maxStack := 2, maxLocals := 6, code := code, exceptionTable := #[], attributes := #[] }
def k1m1 : Method := { name := "law", desc := "(I)Z", sig := { parameters := [.int], returnType := some .boolean }, accessFlags := 9, code := some k1c1 }
def k1c2 : Code := { maxStack := 2, maxLocals := 1, code := method_3_code, exceptionTable := #[], attributes := #[] }
def k1m2 : Method := { name := "pick", desc := "(I)Lcom/example/nursery/nursery/NurseryState;", sig := { parameters := [.int], returnType := some (.object "com/example/nursery/nursery/NurseryState") }, accessFlags := 10, code := some k1c2 }
/-- com/example/nursery/nursery/NurseryStateIsTerminalPinLaw -/
def k1 : Class := { plain "com/example/nursery/nursery/NurseryStateIsTerminalPinLaw" (some 0) with
  accessFlags := 49
  interfaces := #[]
  cf := some (fileOf pool1 9 #[] #[{ accessFlags := 1, nameIndex := 5, descriptorIndex := 6, attributes := #[] }, { accessFlags := 9, nameIndex := 42, descriptorIndex := 43, attributes := #[] }, { accessFlags := 10, nameIndex := 12, descriptorIndex := 13, attributes := #[] }] 49 2 #[] #[])
  fields := #[]
  methods := #[k1m0, k1m1, k1m2]
  instanceTypes := #[]
  staticTypes := #[]
  resolved := Array.replicate 47 none
  statics := none }

def pool2 : Array CpInfo := pool [(1, .class_ 2), (0, u "java/lang/constant/Constable"), (0, .class_ 4), (0, u "java/lang/Object")] 6

/-- java/lang/constant/Constable -/
def k2 : Class := { plain "java/lang/constant/Constable" (some 0) with
  accessFlags := 1537
  interfaces := #[]
  cf := some (fileOf pool2 1 #[] #[] 1537 3 #[] #[])
  fields := #[]
  methods := #[]
  instanceTypes := #[]
  staticTypes := #[]
  resolved := Array.replicate 11 none
  statics := none }

def pool3 : Array CpInfo := pool [(1, .class_ 2), (0, u "java/lang/Comparable"), (0, .class_ 4), (0, u "java/lang/Object")] 7

/-- java/lang/Comparable -/
def k3 : Class := { plain "java/lang/Comparable" (some 0) with
  accessFlags := 1537
  interfaces := #[]
  cf := some (fileOf pool3 1 #[] #[] 1537 3 #[] #[])
  fields := #[]
  methods := #[]
  instanceTypes := #[]
  staticTypes := #[]
  resolved := Array.replicate 12 none
  statics := none }

def pool4 : Array CpInfo := pool [(1, .class_ 2), (0, u "java/io/Serializable"), (0, .class_ 4), (0, u "java/lang/Object")] 2

/-- java/io/Serializable -/
def k4 : Class := { plain "java/io/Serializable" (some 0) with
  accessFlags := 1537
  interfaces := #[]
  cf := some (fileOf pool4 1 #[] #[] 1537 3 #[] #[])
  fields := #[]
  methods := #[]
  instanceTypes := #[]
  staticTypes := #[]
  resolved := Array.replicate 7 none
  statics := none }

def pool5 : Array CpInfo := pool [(2, .class_ 4), (1, u "java/lang/Enum"), (0, u "name"), (0, u "Ljava/lang/String;"), (0, .fieldref 2 8), (0, .nameAndType 9 10), (0, u "ordinal"), (0, u "I"), (1, .class_ 14), (1, u "java/lang/Object"), (4, u "hash"), (86, .class_ 108), (1, u "java/lang/Enum$EnumDesc"), (2, .class_ 112), (0, u "java/lang/constant/Constable"), (0, .class_ 114), (0, u "java/lang/Comparable"), (0, .class_ 116), (0, u "java/io/Serializable"), (9, u "()I")] 77

def k5c0 : Code := { maxStack := 1, maxLocals := 1, code := jdk_37_method_2_code, exceptionTable := #[], attributes := #[] }
def k5m0 : Method := { name := "ordinal", desc := "()I", sig := { parameters := [], returnType := some .int }, accessFlags := 17, code := some k5c0 }
/-- java/lang/Enum -/
def k5 : Class := { plain "java/lang/Enum" (some 0) with
  accessFlags := 1057
  interfaces := #[2, 3, 4]
  cf := some (fileOf pool5 2 #[.nestMembers #[106]] #[{ accessFlags := 17, nameIndex := 9, descriptorIndex := 126, attributes := #[] }] 1057 12 #[111, 113, 115] #[{ accessFlags := 18, nameIndex := 5, descriptorIndex := 6, attributes := #[] }, { accessFlags := 18, nameIndex := 9, descriptorIndex := 10, attributes := #[] }, { accessFlags := 2, nameIndex := 19, descriptorIndex := 10, attributes := #[] }])
  fields := #[{ name := "name", type := (.object "java/lang/String"), accessFlags := 18, slot := 0, constantValue := 0 }, { name := "ordinal", type := .int, accessFlags := 18, slot := 1, constantValue := 0 }, { name := "hash", type := .int, accessFlags := 2, slot := 2, constantValue := 0 }]
  methods := #[k5m0]
  instanceTypes := #[(.object "java/lang/String"), .int, .int]
  staticTypes := #[]
  resolved := Array.replicate 204 none
  statics := none }

def pool6 : Array CpInfo := pool [(1, .class_ 2), (0, u "com/example/nursery/nursery/NurseryState"), (0, .fieldref 1 4), (0, .nameAndType 5 6), (0, u "OPEN"), (0, u "Lcom/example/nursery/nursery/NurseryState;"), (0, .fieldref 1 8), (0, .nameAndType 9 6), (0, u "CLOSING"), (0, .fieldref 1 11), (0, .nameAndType 12 6), (0, u "CANCELLING"), (0, .fieldref 1 14), (0, .nameAndType 15 6), (0, u "CLOSED"), (0, .fieldref 1 17), (0, .nameAndType 18 6), (0, u "CANCELLED"), (2, u "$VALUES"), (0, u "[Lcom/example/nursery/nursery/NurseryState;"), (6, .class_ 31), (1, u "java/lang/Enum"), (8, u "code"), (0, u "I"), (2, u "BY_CODE"), (9, .methodref 1 55), (0, .nameAndType 56 57), (0, u "ordinal"), (0, u "()I"), (29, u "isTerminal"), (0, u "()Z"), (0, u "canMoveTo"), (0, u "(Lcom/example/nursery/nursery/NurseryState;)Z")] 20

def k6c0 : Code := { maxStack := 2, maxLocals := 1, code := prog_5_method_6_code, exceptionTable := #[], attributes := #[] }
def k6m0 : Method := { name := "isTerminal", desc := "()Z", sig := { parameters := [], returnType := some .boolean }, accessFlags := 1, code := some k6c0 }
def k6c1 : Code := { maxStack := 4, maxLocals := 2, code := prog_5_method_7_code, exceptionTable := #[], attributes := #[] }
def k6m1 : Method := { name := "canMoveTo", desc := "(Lcom/example/nursery/nursery/NurseryState;)Z", sig := { parameters := [(.object "com/example/nursery/nursery/NurseryState")], returnType := some .boolean }, accessFlags := 1, code := some k6c1 }
/-- com/example/nursery/nursery/NurseryState -/
def k6 : Class := { plain "com/example/nursery/nursery/NurseryState" (some 5) with
  accessFlags := 16433
  interfaces := #[]
  cf := some (fileOf pool6 1 #[] #[{ accessFlags := 1, nameIndex := 87, descriptorIndex := 88, attributes := #[] }, { accessFlags := 1, nameIndex := 89, descriptorIndex := 90, attributes := #[] }] 16433 29 #[] #[{ accessFlags := 16409, nameIndex := 5, descriptorIndex := 6, attributes := #[] }, { accessFlags := 16409, nameIndex := 9, descriptorIndex := 6, attributes := #[] }, { accessFlags := 16409, nameIndex := 12, descriptorIndex := 6, attributes := #[] }, { accessFlags := 16409, nameIndex := 15, descriptorIndex := 6, attributes := #[] }, { accessFlags := 16409, nameIndex := 18, descriptorIndex := 6, attributes := #[] }, { accessFlags := 26, nameIndex := 44, descriptorIndex := 22, attributes := #[] }, { accessFlags := 18, nameIndex := 40, descriptorIndex := 41, attributes := #[] }, { accessFlags := 4122, nameIndex := 21, descriptorIndex := 22, attributes := #[] }])
  fields := #[{ name := "OPEN", type := (.object "com/example/nursery/nursery/NurseryState"), accessFlags := 16409, slot := 0, constantValue := 0 }, { name := "CLOSING", type := (.object "com/example/nursery/nursery/NurseryState"), accessFlags := 16409, slot := 1, constantValue := 0 }, { name := "CANCELLING", type := (.object "com/example/nursery/nursery/NurseryState"), accessFlags := 16409, slot := 2, constantValue := 0 }, { name := "CLOSED", type := (.object "com/example/nursery/nursery/NurseryState"), accessFlags := 16409, slot := 3, constantValue := 0 }, { name := "CANCELLED", type := (.object "com/example/nursery/nursery/NurseryState"), accessFlags := 16409, slot := 4, constantValue := 0 }, { name := "BY_CODE", type := (.array (.object "com/example/nursery/nursery/NurseryState")), accessFlags := 26, slot := 5, constantValue := 0 }, { name := "code", type := .int, accessFlags := 18, slot := 3, constantValue := 0 }, { name := "$VALUES", type := (.array (.object "com/example/nursery/nursery/NurseryState")), accessFlags := 4122, slot := 6, constantValue := 0 }]
  methods := #[k6m0, k6m1]
  instanceTypes := #[(.object "java/lang/String"), .int, .int, .int]
  staticTypes := #[(.object "com/example/nursery/nursery/NurseryState"), (.object "com/example/nursery/nursery/NurseryState"), (.object "com/example/nursery/nursery/NurseryState"), (.object "com/example/nursery/nursery/NurseryState"), (.object "com/example/nursery/nursery/NurseryState"), (.array (.object "com/example/nursery/nursery/NurseryState")), (.array (.object "com/example/nursery/nursery/NurseryState"))]
  resolved := Array.replicate 111 none
  statics := some 0 }

def pool7 : Array CpInfo := pool [(1, u "java/lang/Cloneable"), (0, .class_ 1), (0, u "java/lang/Object"), (0, .class_ 3)] 3

/-- java/lang/Cloneable -/
def k7 : Class := { plain "java/lang/Cloneable" (some 0) with
  accessFlags := 1537
  interfaces := #[]
  cf := some (fileOf pool7 2 #[] #[] 1537 4 #[] #[])
  fields := #[]
  methods := #[]
  instanceTypes := #[]
  staticTypes := #[]
  resolved := Array.replicate 8 none
  statics := none }

/-- the primitive byte -/
def k8 : Class := { plain "byte" none with kind := .primitive 'B', accessFlags := 0x411 }
/-- [B -/
def k9 : Class := { plain "[B" (some 0) with kind := .array 8 .byte, interfaces := #[7, 4], accessFlags := 1041 }

/-- the primitive int -/
def k10 : Class := { plain "int" none with kind := .primitive 'I', accessFlags := 0x411 }
/-- [I -/
def k11 : Class := { plain "[I" (some 0) with kind := .array 10 .int, interfaces := #[7, 4], accessFlags := 1041 }

def heap : Heap := #[{ cls := 6, slots := #[.ref 1, .ref 4, .ref 5, .ref 2, .ref 3, .null, .null], vm := .statics 6 },
  { cls := 6, slots := #[.null, .int 0, .int 0, .int 0], vm := .none },
  { cls := 6, slots := #[.null, .int 3, .int 0, .int 0], vm := .none },
  { cls := 6, slots := #[.null, .int 4, .int 0, .int 0], vm := .none },
  { cls := 6, slots := #[.null, .int 1, .int 0, .int 0], vm := .none },
  { cls := 6, slots := #[.null, .int 2, .int 0, .int 0], vm := .none }]
def classes : Array Class := #[k0, k1, k2, k3, k4, k5, k6, k7, k8, k9, k10, k11]
def interned : List (Array UInt16 × Addr) := []
def slotsUsed : Nat := 27
def theMethod : MethodId := ⟨1, 1⟩
def args0 : Array Value := #[.int 8]
def aboutOver (below : List Frame) : State where
  vm := { classes := classes, interned := interned.toArray }
  heap := heap
  slotsUsed := slotsUsed
  threads := #[{ frames := .invoking theMethod args0 :: below }]
def below0 : List Frame := [.native { method := ⟨0, 0⟩, args := #[] }]
def about1 : State := aboutOver below0
def p0 : Program := .bare "" "" ""
def e0 : Env := launch0.env 0 0 0
theorem w_frames : about1.frames = Frame.invoking theMethod args0 :: below0 := rfl
set_option maxRecDepth 65536 in
theorem w_args : argsFit about1.vm theMethod args0 = true := by decide +kernel
set_option maxRecDepth 65536 in
theorem w_heap : heapFits about1 = true := by decide +kernel
set_option maxRecDepth 65536 in
theorem w_runnable : about1.curStatus? = some .runnable := by decide +kernel
set_option maxRecDepth 65536 in
theorem w_alone : about1.alone = true := by decide +kernel
set_option maxRecDepth 65536 in
theorem w_named : about1.methodNamed? x = some theMethod := by decide +kernel
set_option maxRecDepth 65536 in
theorem w_hears : about1.hears theMethod below0 = true := by decide +kernel
set_option maxRecDepth 65536 in
theorem w_ripe : about1.ripe theMethod args0 below0 = true := by decide +kernel
theorem w_running : about1.status = .running := rfl
set_option maxRecDepth 65536 in
theorem w_room : about1.hasRoom e0.platform room_1 = true :=
  launch0.hasRoom_least _ room_1 (by decide +kernel) (by decide +kernel) (by decide +kernel) (by decide +kernel) (by decide +kernel) (by decide +kernel)
theorem allAtoms_all (ts : List Jvm.Cond) (a : Array Jvm.Value) (st : Jvm.State) : (allAtoms ts).before a st = ts.all (fun c => c.before a st) := by
  induction ts with
  | nil => rfl
  | cons c t ih =>
    show (Jvm.Cond.and c (allAtoms t)).before a st = _
    rw [Jvm.Cond.before_and, ih, List.all_cons]
def words1 : List Jvm.Cond := Jvm.Cond.code x code maxLocals ret :: tables_1
/-- a 'code' word, met by the world's own term for the bytes: nothing is compared byte by byte -/
theorem code_word {y : MethodName} {bytes : ByteArray} {mx : Nat} {rt : Option FieldType} {a : Array Value} {s : State} {m : MethodId} {meth : Method} {c : Code} (h1 : s.methodNamed? y = some m) (h2 : s.vm.method? m = some meth) (h3 : meth.code = some c) (h4 : c.code = bytes)
    (h5 : (c.maxLocals == mx && c.exceptionTable.isEmpty && decide (c.maxStack ≤ mostOperands) && decide (meth.sig.returnType = rt) && !meth.locks && decide (parseMethodDescriptor y.desc = some meth.sig)) = true) : (Jvm.Cond.code y bytes mx rt).before a s = true := by
  simp only [Bool.and_eq_true, beq_iff_eq, Bool.not_eq_true', decide_eq_true_eq] at h5
  obtain ⟨⟨⟨⟨⟨g1, g2⟩, g3⟩, g4⟩, g5⟩, g6⟩ := h5
  simp [Cond.before, Cond.holds, Cond.value, h1, h2, h3, h4, g1, g2, g3, g4, g5, g6]
def isCode : Jvm.Cond → Bool
  | .code _ _ _ _ => true
  | _ => false
theorem all_split {L : List Jvm.Cond} {P : Jvm.Cond → Bool} (h1 : L.all (fun c => isCode c || P c) = true) (h2 : ∀ c ∈ L.filter isCode, P c = true) : L.all P = true := by
  refine List.all_eq_true.mpr fun c hc => ?_
  have h := List.all_eq_true.mp h1 c hc
  rcases Bool.eq_false_or_eq_true (isCode c) with hi | hi
  · exact h2 c (List.mem_filter.mpr ⟨hc, hi⟩)
  · simpa [hi] using h
set_option maxRecDepth 65536 in
theorem w_c0 : (Jvm.Cond.code x code maxLocals ret).before args0 about1 = true := code_word (m := ⟨1, 1⟩) (meth := k1m1) (c := k1c1) (by decide +kernel) rfl rfl rfl (by decide +kernel)
set_option maxRecDepth 65536 in
theorem w_c1 : (Jvm.Cond.code ({ cls := "com/example/nursery/nursery/NurseryStateIsTerminalPinLaw", name := "pick", desc := "(I)Lcom/example/nursery/nursery/NurseryState;" } : Jvm.MethodName) method_3_code (1 : Nat) (Option.some (Jvm.ClassFile.FieldType.object "com/example/nursery/nursery/NurseryState"))).before args0 about1 = true := code_word (m := ⟨1, 2⟩) (meth := k1m2) (c := k1c2) (by decide +kernel) rfl rfl rfl (by decide +kernel)
set_option maxRecDepth 65536 in
theorem w_c2 : (Jvm.Cond.code ({ cls := "com/example/nursery/nursery/NurseryState", name := "isTerminal", desc := "()Z" } : Jvm.MethodName) prog_5_method_6_code (1 : Nat) (Option.some Jvm.ClassFile.FieldType.boolean)).before args0 about1 = true := code_word (m := ⟨6, 0⟩) (meth := k6m0) (c := k6c0) (by decide +kernel) rfl rfl rfl (by decide +kernel)
set_option maxRecDepth 65536 in
theorem w_c3 : (Jvm.Cond.code ({ cls := "com/example/nursery/nursery/NurseryState", name := "canMoveTo", desc := "(Lcom/example/nursery/nursery/NurseryState;)Z" } : Jvm.MethodName) prog_5_method_7_code (2 : Nat) (Option.some Jvm.ClassFile.FieldType.boolean)).before args0 about1 = true := code_word (m := ⟨6, 1⟩) (meth := k6m1) (c := k6c1) (by decide +kernel) rfl rfl rfl (by decide +kernel)
set_option maxRecDepth 65536 in
theorem w_c4 : (Jvm.Cond.code ({ cls := "java/lang/Enum", name := "ordinal", desc := "()I" } : Jvm.MethodName) jdk_37_method_2_code (1 : Nat) (Option.some Jvm.ClassFile.FieldType.int)).before args0 about1 = true := code_word (m := ⟨5, 0⟩) (meth := k5m0) (c := k5c0) (by decide +kernel) rfl rfl rfl (by decide +kernel)
def codes1 : List Jvm.Cond := [Jvm.Cond.code x code maxLocals ret, Jvm.Cond.code ({ cls := "com/example/nursery/nursery/NurseryStateIsTerminalPinLaw", name := "pick", desc := "(I)Lcom/example/nursery/nursery/NurseryState;" } : Jvm.MethodName) method_3_code (1 : Nat) (Option.some (Jvm.ClassFile.FieldType.object "com/example/nursery/nursery/NurseryState")), Jvm.Cond.code ({ cls := "com/example/nursery/nursery/NurseryState", name := "isTerminal", desc := "()Z" } : Jvm.MethodName) prog_5_method_6_code (1 : Nat) (Option.some Jvm.ClassFile.FieldType.boolean), Jvm.Cond.code ({ cls := "com/example/nursery/nursery/NurseryState", name := "canMoveTo", desc := "(Lcom/example/nursery/nursery/NurseryState;)Z" } : Jvm.MethodName) prog_5_method_7_code (2 : Nat) (Option.some Jvm.ClassFile.FieldType.boolean), Jvm.Cond.code ({ cls := "java/lang/Enum", name := "ordinal", desc := "()I" } : Jvm.MethodName) jdk_37_method_2_code (1 : Nat) (Option.some Jvm.ClassFile.FieldType.int)]
set_option maxRecDepth 65536 in
theorem codes_eq : words1.filter isCode = codes1 := rfl
theorem w_codes : ∀ c ∈ words1.filter isCode, c.before args0 about1 = true := by
  rw [codes_eq]
  intro c hc
  simp only [codes1, List.mem_cons, List.not_mem_nil, or_false] at hc
  rcases hc with rfl | rfl | rfl | rfl | rfl
  · exact w_c0
  · exact w_c1
  · exact w_c2
  · exact w_c3
  · exact w_c4
set_option maxRecDepth 65536 in
theorem w_t1 : (words1.take 24).all (fun c => isCode c || c.before args0 about1) = true := by decide +kernel
set_option maxRecDepth 65536 in
theorem w_t2 : (words1.drop 24).all (fun c => isCode c || c.before args0 about1) = true := by decide +kernel
theorem w_tables : (allAtoms (Jvm.Cond.code x code maxLocals ret :: tables_1)).before args0 about1 = true := by
  rw [allAtoms_all]
  show words1.all (fun c => c.before args0 about1) = true
  refine all_split ?_ w_codes
  rw [← List.take_append_drop 24 words1, List.all_append, w_t1, w_t2]
  rfl
set_option maxRecDepth 65536 in
theorem w_case : (Jvm.Cond.and given_1 narrow_1).before args0 about1 = true := by decide +kernel
theorem w_applies : (headSpec (Jvm.Cond.code x code maxLocals ret :: tables_1) room_1).applies x e0.platform about1 = true :=
  (Spec.applies_iff w_frames).mpr ⟨w_running, w_runnable, w_alone, w_named, w_hears, w_ripe, w_room, w_tables⟩
theorem atStart : AtStart classFile x code maxLocals ret World_1 tables_1 room_1 Calls_1 rest_1 Pre_1 launch0 p0 e0 about1 theMethod args0 below0 :=
  ⟨lists_1, trivial, launch0.admits_env _ _ _, launch0.least_env, fairChoices_fair.cas, fairChoices_fair.clock, w_frames, w_args, w_heap, w_applies, trivial, trivial, w_case⟩
end start1
theorem witness_1 : WitnessClaimed_1 := ⟨start1.p0, start1.e0, start1.about1, start1.theMethod, start1.args0, start1.below0, start1.atStart⟩
end Jvm.Pilot.@@N@@
